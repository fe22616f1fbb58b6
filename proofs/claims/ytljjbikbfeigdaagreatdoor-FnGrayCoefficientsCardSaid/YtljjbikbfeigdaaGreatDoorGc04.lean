/- Part of the proof of FnGrayCoefficientsCardSaid: Slice expressions, loads, stores, new blocks: each yields what its symbolic form says. -/
import Derived.Test.YtljjbikbfeigdaaGreatDoorGc03
import Derived.Laws.Tables
import Derived.ChangeKeysEq
import Derived.Orders
set_option linter.all false
namespace Go.Proofs.YtljjbikbfeigdaaGreatDoor
noncomputable section
open Go
section
variable {S : Sig} {ρ : Env} {w0 w : World} {h : Hp} {P : Program} {B : Nat}
theorem run_bounds (isS : Bool) (len cap : Nat) (lo hi mx : Option Value) (l h m : Int)
    (hm : (mx = none ∧ m = cap) ∨ (∃ k, mx = some (.int k m) ∧ 0 ≤ m ∧ m ≤ cap))
    (hh : (hi = none ∧ mx = none ∧ h = len) ∨ (∃ k, hi = some (.int k h) ∧ 0 ≤ h ∧ h ≤ m))
    (hl : (lo = none ∧ l = 0) ∨ (∃ k, lo = some (.int k l) ∧ 0 ≤ l ∧ l ≤ h)) :
    (Instr.sliceBounds isS len cap lo hi mx).run P w = .ok (l.toNat, h.toNat, m.toNat) w := by
  have hb : ∀ (k : IntKind) (x : Int) (y : Nat) (code : BoundsCode), 0 ≤ x → x ≤ y → (Instr.sliceBound (.int k x) y code).run P w = .ok x.toNat w := by
    intro k x y code h0 h1
    simp [Instr.sliceBound, asIntOf, h0, h1]
  rcases hm with ⟨rfl, rfl⟩ | ⟨k, rfl, hm0, hm1⟩
  · rcases hh with ⟨rfl, _, rfl⟩ | ⟨k, rfl, hh0, hh1⟩
    · rcases hl with ⟨rfl, rfl⟩ | ⟨k, rfl, hl0, hl1⟩
      · simp [Instr.sliceBounds]
      · simp [Instr.sliceBounds, hb _ _ _ _ hl0 hl1]
    · rcases hl with ⟨rfl, rfl⟩ | ⟨k', rfl, hl0, hl1⟩
      · simp [Instr.sliceBounds, hb _ _ _ _ hh0 hh1]
      · simp [Instr.sliceBounds, hb _ _ _ _ hh0 hh1, hb k' l h.toNat _ hl0 (by omega)]
  · rcases hh with ⟨_, h1, _⟩ | ⟨k1, rfl, hh0, hh1⟩
    · cases h1
    · rcases hl with ⟨rfl, rfl⟩ | ⟨k', rfl, hl0, hl1⟩
      · simp [Instr.sliceBounds, hb _ _ _ _ hm0 hm1, hb k1 h m.toNat _ hh0 (by omega)]
      · simp [Instr.sliceBounds, hb _ _ _ _ hm0 hm1, hb k1 h m.toNat _ hh0 (by omega), hb k' l h.toNat _ hl0 (by omega)]
theorem boundT_den {fr : Nat → SR} {a : Act} {xs : Array Operand} (ha : Agree S ρ B fr a xs) {o : Option Operand} (ho : ∀ x, o = some x → x ∈ xs) {d t : T} (hb : boundT fr o d = some t) :
    (o = none ∧ t = d) ∨ (∃ x k, o = some x ∧ a.eval x = .int k (t.I S ρ)) := by
  unfold boundT at hb
  split at hb
  · injection hb with hb; exact .inl ⟨rfl, hb.symm⟩
  · split at hb
    · rename_i k t' he
      injection hb with hb
      subst hb
      exact .inr ⟨_, k, rfl, evL_den ha (ho _ rfl) he⟩
    · cases hb
theorem moveOn_I (m l d r : T) (z : Nat) (hn : (moveNeed m l r).B S ρ = true) : (moveOn m l z d r).I S ρ = if l.I S ρ = 0 then d.I S ρ else if m.I S ρ = l.I S ρ then d.I S ρ else d.I S ρ + l.I S ρ * z := by
  unfold moveNeed at hn
  unfold moveOn
  split
  · rename_i hz; rw [isZ_iff] at hz; subst hz; simp [T.I]
  · rename_i hz
    simp only [hz] at hn
    split
    · rename_i hr
      simp only [hr, mkLt_B, decide_eq_true_eq] at hn
      rw [mkAdd_I, mkMul_I]
      by_cases h0 : l.I S ρ = 0
      · simp [h0, T.I]
      · rw [if_neg h0, if_neg (by omega)]; simp [T.I]
    · rw [mkIte_I, mkEq_B, mkAdd_I, mkMul_I]
      by_cases h0 : l.I S ρ = 0
      · simp [h0, T.I]
      · simp [h0, T.I]
theorem moveOn_addr {r : Ref} {s : Nat} {d m l q : T} {z : Nat} (hd : 0 ≤ d.I S ρ) (hl : 0 ≤ l.I S ρ) (hm : 0 ≤ m.I S ρ) (hn : (moveNeed m l q).B S ρ = true) :
    (if (m.I S ρ).toNat = (l.I S ρ).toNat then addrOf S ρ B r s d else (addrOf S ρ B r s d).add ((l.I S ρ).toNat * z)) = addrOf S ρ B r s (moveOn m l z d q) := by
  simp only [addrOf, moveOn_I m l d q z hn, addr_add]
  by_cases h0 : l.I S ρ = 0
  · simp [h0]
  · by_cases h1 : m.I S ρ = l.I S ρ
    · simp [h1]
    · rw [if_neg h0, if_neg h1, if_neg (by omega), toNat_move z hd hl]
      congr 1; omega
set_option maxHeartbeats 1000000 in
theorem normL_den (l : Leaf) : (normL l).den S ρ B = l.den S ρ B := by
  unfold normL
  split
  · simp only [Leaf.den, addrOf, T.I]
    congr 3
    simp
    omega
  · rfl
theorem slice_ok {fr : Nat → SR} {a : Act} {xs : Array Operand} (ha : Agree S ρ B fr a xs) {t : TypeId} {x l : Leaf} {lo hi mx : Option Operand} {c : List T} (hlo : ∀ x, lo = some x → x ∈ xs) (hhi : ∀ x, hi = some x → x ∈ xs) (hmx : ∀ x, mx = some x → x ∈ xs)
    (hb : sliceS P t x fr lo hi mx = some (c, l)) (hm : Met S ρ c) : (Instr.sliceAt t (x.den S ρ B) (lo.map a.eval) (hi.map a.eval) (mx.map a.eval)).run P w = .ok (l.den S ρ B) w := by
  unfold sliceS at hb
  split at hb
  · rename_i e r s d len cap hu
    split at hb
    · rename_i z tm tl hz hbm hbl
      split at hb
      · rename_i th hbh
        split at hb
        · cases hb
        · rename_i hno
          simp only [Option.some.injEq, Prod.mk.injEq] at hb
          obtain ⟨rfl, rfl⟩ := hb
          have hn := met_needs hm
          simp only [met_cons] at hn
          obtain ⟨a1, a2, a3, a4, a5, a6, a7, a8, a9, a10, -⟩ := hn
          have a1 := le_of a1; have a2 := le_of a2; have a3 := le_of a3; have a4 := le_of a4; have a5 := le_of a5; have a6 := le_of a6; have a7 := le_of a7; have a8 := le_of a8; have a9 := le_of a9
          simp only [T.I] at a1 a3 a5 a7 a8 a9
          have hbd : (Instr.sliceBounds true (len.I S ρ).toNat (cap.I S ρ).toNat (lo.map a.eval) (hi.map a.eval) (mx.map a.eval)).run P w = .ok ((tl.I S ρ).toNat, (th.I S ρ).toNat, (tm.I S ρ).toNat) w := by
            apply run_bounds
            · rcases boundT_den ha hmx hbm with ⟨h1, h2⟩ | ⟨x, k, h1, h2⟩
              · left; subst h1 h2; exact ⟨rfl, by omega⟩
              · right; subst h1; exact ⟨k, by simp [h2], a1, by omega⟩
            · rcases boundT_den ha hhi hbh with ⟨h1, h2⟩ | ⟨x, k, h1, h2⟩
              · left; subst h1 h2
                refine ⟨rfl, ?_, by omega⟩
                cases mx with
                | none => rfl
                | some y => simp at hno
              · right; subst h1
                refine ⟨k, by simp [h2], a3, ?_⟩
                simpa using a4
            · rcases boundT_den ha hlo hbl with ⟨h1, h2⟩ | ⟨x, k, h1, h2⟩
              · left; subst h1 h2; exact ⟨rfl, by simp [T.I]⟩
              · right; subst h1; exact ⟨k, by simp [h2], a5, a6⟩
          have hmv := moveOn_addr (B := B) (r := r) (s := s) (z := z) a7 a5 a1 a10
          have e1 : ((th.I S ρ).toNat - (tl.I S ρ).toNat) = (th.I S ρ - tl.I S ρ).toNat := by omega
          have e2 : ((tm.I S ρ).toNat - (tl.I S ρ).toNat) = (tm.I S ρ - tl.I S ρ).toNat := by omega
          simp only [Instr.sliceAt, Instr.slice, Leaf.den, run_underlying hu, Sem.run_bind, Sem.run_pure, Result.andThen_ok, hbd, run_size hz, mkSub_I]
          rw [← hmv, e1, e2]
          split <;> rfl
      · cases hb
    · cases hb
  · rename_i n e r s d hu
    split at hb
    · rename_i z tm tl hz hbm hbl
      split at hb
      · rename_i th hbh
        split at hb
        · cases hb
        · rename_i hno
          simp only [Option.some.injEq, Prod.mk.injEq] at hb
          obtain ⟨rfl, rfl⟩ := hb
          have hn := met_needs hm
          simp only [met_cons] at hn
          obtain ⟨a1, a2, a3, a4, a5, a6, a7, a10, -⟩ := hn
          have a1 := le_of a1; have a2 := le_of a2; have a3 := le_of a3; have a4 := le_of a4; have a5 := le_of a5; have a6 := le_of a6; have a7 := le_of a7
          simp only [T.I] at a1 a2 a3 a5 a7
          have hbd : (Instr.sliceBounds false n n (lo.map a.eval) (hi.map a.eval) (mx.map a.eval)).run P w = .ok ((tl.I S ρ).toNat, (th.I S ρ).toNat, (tm.I S ρ).toNat) w := by
            apply run_bounds
            · rcases boundT_den ha hmx hbm with ⟨h1, h2⟩ | ⟨x, k, h1, h2⟩
              · left; subst h1 h2; exact ⟨rfl, by simp [T.I]⟩
              · right; subst h1; exact ⟨k, by simp [h2], a1, by omega⟩
            · rcases boundT_den ha hhi hbh with ⟨h1, h2⟩ | ⟨x, k, h1, h2⟩
              · left; subst h1 h2
                refine ⟨rfl, ?_, by simp [T.I]⟩
                cases mx with
                | none => rfl
                | some y => simp at hno
              · right; subst h1
                exact ⟨k, by simp [h2], a3, a4⟩
            · rcases boundT_den ha hlo hbl with ⟨h1, h2⟩ | ⟨x, k, h1, h2⟩
              · left; subst h1 h2; exact ⟨rfl, by simp [T.I]⟩
              · right; subst h1; exact ⟨k, by simp [h2], a5, a6⟩
          have hmv := moveOn_addr (B := B) (r := r) (s := s) (z := z) a7 a5 a1 a10
          have e1 : ((th.I S ρ).toNat - (tl.I S ρ).toNat) = (th.I S ρ - tl.I S ρ).toNat := by omega
          have e2 : ((tm.I S ρ).toNat - (tl.I S ρ).toNat) = (tm.I S ρ - tl.I S ρ).toNat := by omega
          simp only [Instr.sliceAt, Leaf.den, Instr.sureAddr, run_underlying hu, Sem.run_bind, Sem.run_pure, Result.andThen_ok, hbd, run_size hz, mkSub_I]
          rw [← hmv, e1, e2]
      · cases hb
    · cases hb
  · cases hb
/-- A load. -/
theorem load_ok (hh : HpOk S ρ w0 h w) {t : TypeId} (hu : ∃ d, P.underlying t = some d) {p : Leaf} {c : List T} {x : SV} (hb : loadR P t p h = some (c, x)) (hm : Met S ρ c) :
    (Instr.loadAt t (p.den S ρ w0.heap.size)).run P w = .ok (x.den S ρ w0.heap.size) w ∧ x.wf S ρ := by
  obtain ⟨ud, hu⟩ := hu
  unfold loadR at hb
  split at hb
  · rename_i r s d
    split at hb
    · rename_i b hf
      have hmem := findB_mem hf
      have hrw := hh.rw_ _ hmem
      have hoff := hh.off _ hmem
      have hwf := hh.wf _ hmem
      simp only at hrw hoff hwf
      split at hb
      · rename_i hagg
        split at hb
        · rename_i n hn
          cases hl : loadMany b.segs s d n with
          | none => simp [hl] at hb
          | some cg =>
            obtain ⟨c', g⟩ := cg
            simp [hl] at hb
            obtain ⟨rfl, rfl⟩ := hb
            obtain ⟨h1, h2, h3⟩ := loadMany_spec (B := w0.heap.size) hwf hl hm
            refine ⟨?_, h3⟩
            have hl2 := run_loadCells_list (P := P) w (addrOf S ρ w0.heap.size r s d) (segsDen S ρ w0.heap.size g) (fun j v hv => by
              rw [addrOf, addr_add, cell_of_row w _ _ _ _ _ hrw, hoff, Nat.zero_add, List.getElem?_toArray]
              rw [h1, List.getElem?_take] at hv
              split at hv
              · rw [List.getElem?_drop] at hv; exact hv
              · cases hv)
            rw [h2] at hl2
            simp only [Instr.loadAt, Leaf.den, Instr.sureAddr, loadVar, Sem.run_bind, Sem.run_pure, Result.andThen_ok, run_isAgg hu, hagg, if_true, run_size hn, hl2, SV.den]
        · cases hb
      · rename_i hagg
        cases hl : loadLeaf b.segs s d with
        | none => simp [hl] at hb
        | some cg =>
          obtain ⟨c', g⟩ := cg
          simp [hl] at hb
          obtain ⟨rfl, rfl⟩ := hb
          have h1 := loadLeaf_spec (B := w0.heap.size) hwf hl hm
          refine ⟨?_, trivial⟩
          have hc : w.cell? (addrOf S ρ w0.heap.size r s d) = some (g.den S ρ w0.heap.size) := by
            rw [addrOf, cell_of_row w _ _ _ _ _ hrw, hoff, Nat.zero_add, List.getElem?_toArray]; exact h1
          simp only [Instr.loadAt, Leaf.den, Instr.sureAddr, loadVar, Sem.run_bind, Sem.run_pure, Result.andThen_ok, run_isAgg hu, hagg, Bool.false_eq_true, if_false, run_load, hc, SV.den]
    · split at hb
      · rename_i k a hf
        split at hb
        · rename_i hagg
          split at hb
          · rename_i n hn
            simp only [Option.some.injEq, Prod.mk.injEq] at hb
            obtain ⟨rfl, rfl⟩ := hb
            have hmn := met_needs hm
            simp only [met_cons] at hmn
            obtain ⟨b1, b2, -⟩ := hmn
            have b1 := le_of b1; have b2 := le_of b2
            simp only [T.I, mkAdd_I] at b1 b2
            have hlen : (List.take n ((a.A S ρ).drop (s + (d.I S ρ).toNat))).length = n := by simp; omega
            have hcut : (T.cut a (mkAdd (.lit s) d) (.lit n)).A S ρ = List.take n ((a.A S ρ).drop (s + (d.I S ρ).toNat)) := by
              simp only [T.A, mkAdd_I, T.I]
              rw [show ((s : Int) + d.I S ρ).toNat = s + (d.I S ρ).toNat from by omega]; simp
            have hden : segsDen S ρ w0.heap.size [.arr k (.cut a (mkAdd (.lit s) d) (.lit n)) n] = (List.take n ((a.A S ρ).drop (s + (d.I S ρ).toNat))).map (Value.int k) := by
              simp only [segsDen, List.flatMap_cons, List.flatMap_nil, List.append_nil, Seg.den, hcut]
            have h2 : (segsDen S ρ w0.heap.size [.arr k (.cut a (mkAdd (.lit s) d) (.lit n)) n]).length = n := by rw [hden]; simpa using hlen
            have hl2 := run_loadCells_list (P := P) w (addrOf S ρ w0.heap.size r s d) (segsDen S ρ w0.heap.size [.arr k (.cut a (mkAdd (.lit s) d) (.lit n)) n]) (fun j v hj => by
              rw [hden, List.getElem?_map, Option.map_eq_some_iff] at hj
              obtain ⟨x, hx, rfl⟩ := hj
              have hjn : j < n := by rw [← hlen]; exact (List.getElem?_eq_some_iff.1 hx).1
              rw [List.getElem?_take, if_pos hjn, List.getElem?_drop] at hx
              have := hh.ro _ (findRO_mem hf) (s + (d.I S ρ).toNat + j) x hx
              simp only [addrOf, addr_add]
              rw [show r.off ρ + s + (d.I S ρ).toNat + j = r.off ρ + (s + (d.I S ρ).toNat + j) from by omega]
              exact this)
            rw [h2] at hl2
            refine ⟨?_, ?_⟩
            · simp only [Instr.loadAt, Leaf.den, Instr.sureAddr, loadVar, Sem.run_bind, Sem.run_pure, Result.andThen_ok, run_isAgg hu, hagg, if_true, run_size hn, hl2, SV.den]
            · intro g hg
              simp only [List.mem_singleton] at hg
              subst hg
              show ((T.cut a (mkAdd (.lit s) d) (.lit n)).A S ρ).length = n
              rw [hcut]; exact hlen
          · cases hb
        · rename_i hagg
          simp only [Option.some.injEq, Prod.mk.injEq] at hb
          obtain ⟨rfl, rfl⟩ := hb
          obtain ⟨hd, hi⟩ := inRange_met hm
          simp only [mkAdd_I, T.I] at hi
          have hro := hh.ro _ (findRO_mem hf) (s + (d.I S ρ).toNat) ((a.A S ρ).getD (s + (d.I S ρ).toNat) 0) (by simp only; rw [List.getD_eq_getElem?_getD, List.getElem?_eq_getElem (by omega)]; rfl)
          refine ⟨?_, trivial⟩
          have hc : w.cell? (addrOf S ρ w0.heap.size r s d) = some (.int k ((a.A S ρ).getD (s + (d.I S ρ).toNat) 0)) := by
            rw [addrOf, Nat.add_assoc]; exact hro
          simp only [Instr.loadAt, Leaf.den, Instr.sureAddr, loadVar, Sem.run_bind, Sem.run_pure, Result.andThen_ok, run_isAgg hu, hagg, Bool.false_eq_true, if_false, run_load, hc, SV.den, mkGet_I, mkAdd_I, T.I]
          rw [show ((s : Int) + d.I S ρ).toNat = s + (d.I S ρ).toNat from by omega]
      · cases hb
  · cases hb
theorem readS_ok (hh : HpOk S ρ w0 h w) {l : Leaf} {n : Nat} {c : List T} {g : List Seg} (hb : readS h l n = some (c, g)) (hm : Met S ρ c) :
    ∃ r s d ln cp, l = .sl r s d ln cp ∧ (segsDen S ρ w0.heap.size g).length = n ∧ segsWf S ρ g ∧
      ∀ j v, (segsDen S ρ w0.heap.size g)[j]? = some v → w.cell? ((addrOf S ρ w0.heap.size r s d).add j) = some v := by
  unfold readS at hb
  split at hb
  · rename_i r s d ln cp
    refine ⟨r, s, d, ln, cp, rfl, ?_⟩
    split at hb
    · rename_i b hf
      have hmem := findB_mem hf
      have hrw := hh.rw_ _ hmem
      have hoff := hh.off _ hmem
      have hwf := hh.wf _ hmem
      simp only at hrw hoff hwf
      obtain ⟨h1, h2, h3⟩ := loadMany_spec (B := w0.heap.size) hwf hb hm
      refine ⟨h2, h3, fun j v hj => ?_⟩
      have hjn : j < n := by rw [← h2]; exact (List.getElem?_eq_some_iff.1 hj).1
      simp only [addrOf, addr_add, hoff, Nat.zero_add]
      rw [cell_of_row w _ _ _ _ _ hrw, List.getElem?_toArray]
      rw [h1, List.getElem?_take, if_pos hjn, List.getElem?_drop] at hj
      rw [← hj]
    · split at hb
      · rename_i k a hf
        simp only [Option.some.injEq, Prod.mk.injEq] at hb
        obtain ⟨rfl, rfl⟩ := hb
        have hn := met_needs hm
        simp only [met_cons] at hn
        obtain ⟨b1, b2, -⟩ := hn
        have b1 := le_of b1; have b2 := le_of b2
        simp only [T.I, mkAdd_I] at b1 b2
        have hlen : (List.take n ((a.A S ρ).drop (s + (d.I S ρ).toNat))).length = n := by simp; omega
        have hcut : (T.cut a (mkAdd (.lit s) d) (.lit n)).A S ρ = List.take n ((a.A S ρ).drop (s + (d.I S ρ).toNat)) := by
          simp only [T.A, mkAdd_I, T.I]
          rw [show ((s : Int) + d.I S ρ).toNat = s + (d.I S ρ).toNat from by omega]; simp
        have hden : segsDen S ρ w0.heap.size [.arr k (.cut a (mkAdd (.lit s) d) (.lit n)) n] = (List.take n ((a.A S ρ).drop (s + (d.I S ρ).toNat))).map (Value.int k) := by
          simp only [segsDen, List.flatMap_cons, List.flatMap_nil, List.append_nil, Seg.den, hcut]
        refine ⟨by rw [hden]; simpa using hlen, ?_, fun j v hj => ?_⟩
        · intro g hg
          simp only [List.mem_singleton] at hg
          subst hg
          show ((T.cut a (mkAdd (.lit s) d) (.lit n)).A S ρ).length = n
          rw [hcut]; exact hlen
        · rw [hden, List.getElem?_map, Option.map_eq_some_iff] at hj
          obtain ⟨x, hx, rfl⟩ := hj
          have hjn : j < n := by rw [← hlen]; exact (List.getElem?_eq_some_iff.1 hx).1
          rw [List.getElem?_take, if_pos hjn, List.getElem?_drop] at hx
          have := hh.ro _ (findRO_mem hf) (s + (d.I S ρ).toNat + j) x hx
          simp only [addrOf, addr_add]
          rw [show r.off ρ + s + (d.I S ρ).toNat + j = r.off ρ + (s + (d.I S ρ).toNat + j) from by omega]
          exact this
      · cases hb
  · cases hb
theorem plain_one {l : Leaf} (h : l.plain = true) : (l.den S ρ B).oneCell' = true ∧ (l.den S ρ B).cells = #[l.den S ρ B] := by
  cases l <;> first | (cases h; done) | exact ⟨rfl, rfl⟩
theorem plain_seg {g : Seg} (h : g.plain = true) : ∀ v ∈ g.den S ρ B, v.oneCell' = true := by
  cases g with
  | cells l =>
    intro v hv
    simp only [Seg.den, List.mem_map] at hv
    obtain ⟨x, hx, rfl⟩ := hv
    simp only [Seg.plain, List.all_eq_true] at h
    exact (plain_one (h x hx)).1
  | arr k a n =>
    intro v hv
    simp only [Seg.den, List.mem_map] at hv
    obtain ⟨x, hx, rfl⟩ := hv
    rfl
  | arrD k a =>
    intro v hv
    simp only [Seg.den, List.mem_map] at hv
    obtain ⟨x, hx, rfl⟩ := hv
    rfl
  | bar a n =>
    intro v hv
    simp only [Seg.den, List.mem_map] at hv
    obtain ⟨x, hx, rfl⟩ := hv
    rfl
  | junk n => cases h
  | tail z n => cases h
theorem plain_segs {g : List Seg} (h : g.all Seg.plain = true) : ∀ v ∈ segsDen S ρ B g, v.oneCell' = true := by
  intro v hv
  simp only [segsDen, List.mem_flatMap] at hv
  obtain ⟨x, hx, hv⟩ := hv
  exact plain_seg (List.all_eq_true.1 h x hx) v hv
/-- A store. -/
theorem store_ok (hh : HpOk S ρ w0 h w) {t : TypeId} {p : Leaf} {c : List T} {x : SV} {h' : Hp} (hb : storeR P t p x h = some (c, h')) (hx : x.wf S ρ) (hm : Met S ρ c) :
    ∃ w', (Instr.storeAt t (p.den S ρ w0.heap.size) (x.den S ρ w0.heap.size)).run P w = .ok () w' ∧ HpOk S ρ w0 h' w' := by
  unfold storeR at hb
  split at hb
  · rename_i r s d
    split at hb
    · rename_i b hf
      have hmem := findB_mem hf
      have hrw := hh.rw_ _ hmem
      have hoff := hh.off _ hmem
      have hwf := hh.wf _ hmem
      simp only at hrw hoff hwf
      split at hb
      · rename_i l
        split at hb
        · rename_i hc
          obtain ⟨hsz, hpl⟩ := hc
          cases hl : storeLeaf b.segs s d l with
          | none => simp [hl] at hb
          | some cg =>
            obtain ⟨c', g⟩ := cg
            simp [hl] at hb
            obtain ⟨rfl, rfl⟩ := hb
            obtain ⟨h1, h2, h3⟩ := storeLeaf_spec (B := w0.heap.size) hwf hl hm
            have hp12 : (l.den S ρ w0.heap.size).oneCell' = true ∧ (l.den S ρ w0.heap.size).cells = #[l.den S ρ w0.heap.size] := by
              rw [Bool.or_eq_true] at hpl
              rcases hpl with hpl | hpl
              · exact plain_one (S := S) (ρ := ρ) (B := w0.heap.size) hpl
              · unfold isOwL at hpl
                split at hpl
                · rename_i n
                  split at hpl
                  · rename_i o ho
                    have hn := Nat.eq_of_beq_eq_true hpl
                    subst hn
                    rcases hh.own o ho with ⟨h1, _⟩ | ⟨_, _, h1, _⟩ <;> (simp only [Leaf.den, h1]; exact ⟨rfl, rfl⟩)
                  · cases hpl
                · cases hpl
            obtain ⟨p1, p2⟩ := hp12
            have hst := run_storeCells_at (P := P) (r.blk ρ w0.heap.size) (s + (d.I S ρ).toNat) b.ty [l.den S ρ w0.heap.size] 0 _ w hrw (by simp; omega) (by simpa using p1)
            refine ⟨_, ?_, hh.upd hf (segs := g) h2 (w' := w.setRow (r.blk ρ w0.heap.size) (segsDen S ρ w0.heap.size g).toArray) (setRow_heap w _ _ _ _ _ hrw) (fun i hi => setRow_other w _ _ _ hi) (by simp) rfl rfl rfl⟩
            simp only [Instr.storeAt, Leaf.den, Instr.sureAddr, storeVar, Sem.run_bind, Sem.run_pure, Result.andThen_ok, run_size hsz, SV.den, p2]
            simp only [addrOf, hoff, Nat.zero_add, List.size_toArray, List.length_cons, List.length_nil, ne_eq, not_true_eq_false, if_false]
            rw [hst]
            simp only [Nat.add_zero, List.length_cons, List.length_nil]
            rw [h1, List.set_eq_take_append_cons_drop, if_pos h3]
            simp
        · cases hb
      · rename_i g
        split at hb
        · rename_i n hn
          split at hb
          · rename_i hc
            obtain ⟨hsz, hpl⟩ := hc
            cases hl : storeMany b.segs s d n g with
            | none => simp [hl] at hb
            | some cg =>
              obtain ⟨c', g'⟩ := cg
              simp [hl] at hb
              obtain ⟨rfl, rfl⟩ := hb
              have hlen := segsSize_den (B := w0.heap.size) hx hn
              obtain ⟨h1, h2, h3⟩ := storeMany_spec (B := w0.heap.size) hwf hx hlen hl hm
              have hst := run_storeCells_at (P := P) (r.blk ρ w0.heap.size) (s + (d.I S ρ).toNat) b.ty (segsDen S ρ w0.heap.size g) 0 _ w hrw (by simp; omega) (plain_segs hpl)
              refine ⟨_, ?_, hh.upd hf (segs := g') h2 (w' := w.setRow (r.blk ρ w0.heap.size) (segsDen S ρ w0.heap.size g').toArray) (setRow_heap w _ _ _ _ _ hrw) (fun i hi => setRow_other w _ _ _ hi) (by simp) rfl rfl rfl⟩
              simp only [Instr.storeAt, Leaf.den, Instr.sureAddr, storeVar, Sem.run_bind, Sem.run_pure, Result.andThen_ok, run_size hsz, SV.den, Value.cells]
              simp only [addrOf, hoff, Nat.zero_add, List.size_toArray, hlen, ne_eq, not_true_eq_false, if_false]
              rw [hst]
              simp only [Nat.add_zero, hlen]
              rw [h1]
              simp
          · cases hb
        · cases hb
    · cases hb
  · cases hb
end
end
end Go.Proofs.YtljjbikbfeigdaaGreatDoor
namespace Go.Proofs.YtljjbikbfeigdaaGreatDoor
noncomputable section
open Go
section
variable {S : Sig} {ρ : Env} {w0 w : World} {h : Hp} {P : Program} {B : Nat}
theorem leavesOf_den : ∀ {vs : List Value} {l : List Leaf}, leavesOf vs = some l → l.map (Leaf.den S ρ B) = vs
  | [], l, h => by simp [leavesOf] at h; subst h; rfl
  | v :: vs, l, h => by
    unfold leavesOf at h
    split at h
    · rename_i a b ha hb
      simp only [Option.some.injEq] at h
      subst h
      simp [leafOf_den ha, leavesOf_den hb]
    · cases h
theorem flatSegs_den : ∀ {g : List Seg} {l : List Leaf}, flatSegs g = some l → segsDen S ρ B g = l.map (Leaf.den S ρ B) ∧ segsWf S ρ g
  | [], l, h => by simp [flatSegs] at h; subst h; exact ⟨rfl, fun _ h => nomatch h⟩
  | x :: g, l, h => by
    unfold flatSegs at h
    split at h
    · rename_i a b ha hb
      simp only [Option.some.injEq] at h
      subst h
      obtain ⟨h1, h2⟩ := flatSegs_den hb
      have : x.den S ρ B = a.map (Leaf.den S ρ B) ∧ x.wf S ρ := by
        unfold flatSeg at ha
        split at ha
        · injection ha with ha; subst ha; exact ⟨rfl, trivial⟩
        · split at ha
          · rename_i k m z n hmn
            injection ha with ha; subst ha
            simp [Seg.den, Seg.wf, T.A, T.I, Leaf.den, hmn]
          · cases ha
        · split at ha
          · rename_i m z n hmn
            injection ha with ha; subst ha
            simp [Seg.den, Seg.wf, T.A, T.B, T.I, Leaf.den, hmn.1, hmn.2, truthOf]
          · cases ha
        · cases ha
      exact ⟨by rw [segsDen_cons, this.1, h1, List.map_append], segsWf_cons.2 ⟨this.2, h2⟩⟩
    · cases h
theorem zeroS_spec {t : TypeId} {g : List Seg} (hz : zeroS P t = some g) : ∃ i z, P.info? t = some i ∧ i.zero = some z ∧ segsDen S ρ B g = z.cells.toList ∧ segsWf S ρ g := by
  unfold zeroS at hz
  split at hz
  · rename_i g0 z hg hzz
    split at hz
    · rename_i a b ha hb
      split at hz
      · rename_i hab
        injection hz with hz
        subst hz hab
        cases hi : P.info? t with
        | none => simp [hi] at hzz
        | some i =>
          simp [hi] at hzz
          obtain ⟨h1, h2⟩ := flatSegs_den (S := S) (ρ := ρ) (B := B) ha
          exact ⟨i, z, rfl, hzz, by rw [h1]; exact leavesOf_den hb, h2⟩
      · cases hz
    · cases hz
  · cases hz
theorem addr_new (hh : HpOk S ρ w0 h w) : addrOf S ρ w0.heap.size (.new h.na) 0 (.lit 0) = ⟨w.heap.size, 0, none⟩ := by
  simp [addrOf, Ref.blk, Ref.off, T.I, hh.size]
theorem alloc_ok (hh : HpOk S ρ w0 h w) {t : TypeId} {g : List Seg} (hz : zeroS P t = some g) :
    (Instr.alloc t true (.tuple #[])).run P w = .ok (Leaf.den S ρ w0.heap.size (.ptr (.new h.na) 0 (.lit 0))) (w.alloc (.cells (segsDen S ρ w0.heap.size g).toArray t)) ∧
    HpOk S ρ w0 (pushB h ⟨t, g⟩) (w.alloc (.cells (segsDen S ρ w0.heap.size g).toArray t)) := by
  obtain ⟨i, z, hi, hzz, hd, hw⟩ := zeroS_spec (S := S) (ρ := ρ) (B := w0.heap.size) hz
  refine ⟨?_, hh.push t hw⟩
  simp [Instr.alloc, zeroValue, typeInfo, hi, hzz, newVar, newRow, Leaf.den, addr_new hh, hd]
theorem segs_den_cells {x : SV} (h : x.plain = true) : (x.den S ρ B).cells.toList = segsDen S ρ B x.segs := by
  cases x with
  | one l => simp only [SV.den, SV.segs, (plain_one (S := S) (ρ := ρ) (B := B) h).2]; simp [segsDen_cons, segsDen_nil, Seg.den]
  | agg g => simp [SV.den, SV.segs, Value.cells]
theorem segs_wf {x : SV} (h : x.wf S ρ) : segsWf S ρ x.segs := by
  cases x with
  | one l => intro g hg; simp [SV.segs] at hg; subst hg; trivial
  | agg g => exact h
theorem box_ok (hh : HpOk S ρ w0 h w) {t : TypeId} {x : SV} (hx : x.wf S ρ) (hp : x.plain = true) :
    (Instr.box t (x.den S ρ w0.heap.size)).run P w = .ok (Leaf.den S ρ w0.heap.size (.ptr (.new h.na) 0 (.lit 0))) (w.alloc (.cells (segsDen S ρ w0.heap.size x.segs).toArray t)) ∧
    HpOk S ρ w0 (pushB h ⟨t, x.segs⟩) (w.alloc (.cells (segsDen S ρ w0.heap.size x.segs).toArray t)) := by
  refine ⟨?_, hh.push t (segs_wf hx)⟩
  simp [Instr.box, newVar, newRow, Leaf.den, addr_new hh, ← segs_den_cells hp]
theorem foldl_set (off : Nat) : ∀ (l : List Value) (k : Nat) (arr : List Value), off + k + l.length ≤ arr.length →
    (l.zipIdx k).foldl (fun (cs : Array Value) (p : Value × Nat) => cs.setIfInBounds (off + p.2) p.1) arr.toArray = (arr.take (off + k) ++ (l ++ arr.drop (off + k + l.length))).toArray
  | [], k, arr, _ => by simp
  | v :: l, k, arr, hl => by
    simp only [List.length_cons] at hl
    simp only [List.zipIdx_cons, List.foldl_cons, List.setIfInBounds_toArray]
    rw [foldl_set off l (k + 1) (arr.set (off + k) v) (by simp; omega)]
    congr 1
    rw [List.set_eq_take_append_cons_drop, if_pos (by omega)]
    have e1 : (List.take (off + k) arr).length = off + k := by simp; omega
    rw [List.take_append, List.drop_append, e1, List.take_of_length_le (by omega), List.drop_eq_nil_of_le (by omega : (List.take (off + k) arr).length ≤ off + (k + 1) + l.length)]
    rw [show off + (k + 1) - (off + k) = 1 from by omega, show off + (k + 1) + l.length - (off + k) = l.length + 1 from by omega]
    simp only [List.take_succ_cons, List.take_zero, List.drop_succ_cons, List.drop_drop, List.nil_append, List.length_cons, List.append_assoc, List.cons_append]
    congr 4
    omega
theorem fill_ok (place : Nat → Option (Nat × Nat)) : ∀ {ps : List (Nat × SR)} {g : List Seg} {c : List T} {g' : List Seg}, segsWf S ρ g → (∀ p ∈ ps, p.2.wf S ρ) → fillS place g ps = some (c, g') →
    Instr.fill place (segsDen S ρ B g).toArray (ps.map fun p => (p.1, p.2.den S ρ B)) = some (segsDen S ρ B g').toArray ∧ segsWf S ρ g'
  | [], g, c, g', hg, _, h => by
    simp only [fillS, Option.some.injEq, Prod.mk.injEq] at h
    obtain ⟨_, rfl⟩ := h
    exact ⟨rfl, hg⟩
  | (i, r) :: ps, g, c, g', hg, hw, h => by
    unfold fillS at h
    split at h
    · rename_i he
      cases he
    · rename_i i' x r' he
      injection he with he1 he2
      injection he1 with he1 he3
      subst he1 he2 he3
      split at h
      · rename_i off size n hp hn
        split at h
        · rename_i hc
          obtain ⟨rfl, hpl⟩ := hc
          split at h
          · rename_i c' g1 hs
            have hx : x.wf S ρ := hw (i, .v x) (by simp)
            have hlen := segsSize_den (B := B) (segs_wf hx) hn
            obtain ⟨h1, h2, h3⟩ := storeMany_spec (B := B) hg (segs_wf hx) hlen hs (by
              unfold storeMany at hs
              rw [if_pos (isZ_iff.2 rfl)] at hs
              split at hs
              · rename_i p y hp'
                cases hq : splitSegs y n with
                | none => simp [hq] at hs
                | some xy => simp [hq] at hs; rw [hs.1]; exact Met.nil
              · cases hs)
            obtain ⟨h4, h5⟩ := fill_ok place h2 (fun p hp => hw p (by simp [hp])) h
            refine ⟨?_, h5⟩
            simp only [List.map_cons, Instr.fill, hp, SR.den]
            have hcells := segs_den_cells (S := S) (ρ := ρ) (B := B) hpl
            have hsz : (x.den S ρ B).cells.size = n := by rw [← hlen, ← hcells]; simp
            simp only [T.I, Int.toNat_zero, Nat.add_zero] at h1 h3
            rw [if_neg (by simp [hsz]; omega)]
            rw [← h4]
            congr 1
            rw [← Array.foldl_toList, Array.toList_zipIdx, hcells, foldl_set off _ 0 _ (by omega), h1, hlen]
            simp
          · cases h
        · cases h
      · cases h
    · cases h
theorem litInts_den (k : IntKind) : ∀ {l : List Leaf} {ns : List Int}, litInts k l = some ns → l.map (Leaf.den S ρ B) = ns.map (Value.int k)
  | [], ns, h => by simp [litInts] at h; subst h; rfl
  | x :: l, ns, h => by
    unfold litInts at h
    split at h
    · cases ‹_ = []›
    · rename_i k' n r he
      injection he with he1 he2
      subst he1 he2
      split at h
      · rename_i hk
        subst hk
        cases hr : litInts k l with
        | none => simp [hr] at h
        | some m => simp [hr] at h; subst h; simp [litInts_den k hr, Leaf.den, T.I]
      · cases h
    · cases h
theorem packInts_den (g : List Seg) (hw : segsWf S ρ g) : segsDen S ρ B (packInts g) = segsDen S ρ B g ∧ segsWf S ρ (packInts g) := by
  unfold packInts
  split
  · rename_i l
    split
    · rename_i k t r
      split
      · rename_i ns hns
        have := litInts_den (S := S) (ρ := ρ) (B := B) k hns
        refine ⟨?_, fun g hg => ?_⟩
        · simp only [segsDen_cons, segsDen_nil, List.append_nil, Seg.den, T.A]; exact this.symm
        · simp at hg; subst hg; simp [Seg.wf, T.A]
      · exact ⟨rfl, hw⟩
    · exact ⟨rfl, hw⟩
  · exact ⟨rfl, hw⟩
/-- A part of a value. -/
theorem part_ok {t : TypeId} {g : List Seg} {off : Nat} {x : SV} (hu : ∃ d, P.underlying t = some d) (hw : segsWf S ρ g) (hb : partS P t g off = some x) :
    (part t (segsDen S ρ B g).toArray off).run P w = .ok (x.den S ρ B) w ∧ x.wf S ρ := by
  obtain ⟨d, hu⟩ := hu
  unfold partS at hb
  split at hb
  · rename_i hagg
    split at hb
    · rename_i n hn
      split at hb
      · rename_i y hl
        injection hb with hb
        subst hb
        obtain ⟨h1, h2, h3⟩ := loadMany_spec (B := B) hw hl Met.nil
        refine ⟨?_, h3⟩
        simp only [T.I, Int.toNat_zero, Nat.add_zero] at h1
        simp only [part, Sem.run_bind, run_isAgg hu, Result.andThen_ok, hagg, if_true, run_size hn, Sem.run_pure, SV.den]
        rw [h1]
        simp
      · cases hb
    · cases hb
  · rename_i hagg
    split at hb
    · rename_i y hl
      injection hb with hb
      subst hb
      have h1 := loadLeaf_spec (B := B) hw hl Met.nil
      simp only [T.I, Int.toNat_zero, Nat.add_zero] at h1
      refine ⟨?_, trivial⟩
      simp only [part, Sem.run_bind, run_isAgg hu, Result.andThen_ok, hagg, Bool.false_eq_true, if_false, List.getElem?_toArray, h1, Sem.run_pure, SV.den]
    · cases hb
theorem madeCells_many (z : Array Value) (n m : Nat) (hz : z.size = n) (hn : 0 < n) : ((Array.range (m * n)).map (z[· % z.size]!)).toList = (List.replicate m z.toList).flatten := by
  subst hz
  induction m with
  | zero => simp
  | succ m ih =>
    simp only [Array.toList_map, Array.toList_range] at ih ⊢
    rw [Nat.succ_mul, List.range_add, List.map_append, ih, List.replicate_succ', List.flatten_append]
    congr 1
    simp only [List.map_map, List.flatten_cons, List.flatten_nil, List.append_nil]
    apply List.ext_getElem
    · simp
    · intro i h1 h2
      simp at h1
      simp [Nat.mod_eq_of_lt h1, h1]
theorem mkApp_A (a b : T) : (mkApp a b).A S ρ = a.A S ρ ++ b.A S ρ := by
  unfold mkApp
  split
  · rename_i h1 h2; rw [viewA_alit h1, viewA_alit h2]; rfl
  · rw [viewA_alit (t := a) (by assumption)]; rfl
  · rw [viewA_alit (t := b) (by assumption)]; simp [T.A]
  · simp [T.A, T.I, spliceL]
theorem setsT_den (k : IntKind) : ∀ {l : List Leaf} {a : T} {j : Nat} {t : T}, j + l.length ≤ (a.A S ρ).length → setsT k a j l = some t →
    (t.A S ρ).map (Value.int k) = ((a.A S ρ).take j).map (Value.int k) ++ l.map (Leaf.den S ρ B) ++ ((a.A S ρ).drop (j + l.length)).map (Value.int k)
  | [], a, j, t, _, h => by
    simp only [setsT, Option.some.injEq] at h
    subst h
    simp
  | x :: l, a, j, t, hj, h => by
    cases x with
    | int k' v =>
      simp only [setsT] at h
      split at h
      · rename_i hk
        subst hk
        simp only [List.length_cons] at hj
        have := setsT_den k (l := l) (a := .set a (.lit j) v) (j := j + 1) (t := t) (by simp [T.A]; omega) h
        rw [this]
        simp only [T.A, T.I, Int.toNat_natCast, List.map_cons, Leaf.den, List.length_cons]
        rw [List.take_add_one, List.take_set_of_le (Nat.le_refl j), List.getElem?_set_self (by omega), List.drop_set_of_lt (by omega)]
        simp
        rw [show j + 1 + l.length = j + (l.length + 1) from by omega]
      · cases h
    | _ => simp [setsT] at h
theorem segT_den {k : IntKind} {g : Seg} {t : T} (h : segT k g = some t) : (t.A S ρ).map (Value.int k) = g.den S ρ B := by
  unfold segT at h
  split at h
  · rename_i l
    split at h
    · rename_i ns hn
      cases h
      exact (litInts_den (S := S) (ρ := ρ) (B := B) k hn).symm
    · have := setsT_den (S := S) (ρ := ρ) (B := B) k (l := l) (j := 0) (by simp [T.A]) h
      rw [this]
      simp [T.A, Seg.den]
  · split at h
    · rename_i hk; cases h; subst hk; rfl
    · cases h
  · split at h
    · rename_i hk; cases h; subst hk; rfl
    · cases h
  · cases h
theorem packT_den {k : IntKind} : ∀ {g : List Seg} {t : T}, packT k g = some t → (t.A S ρ).map (Value.int k) = segsDen S ρ B g
  | [], t, h => by simp only [packT, Option.some.injEq] at h; subst h; rfl
  | x :: g, t, h => by
    unfold packT at h
    split at h
    · rename_i a b ha hb
      cases h
      rw [mkApp_A, List.map_append, segT_den (B := B) ha, packT_den hb, segsDen_cons]
    · cases h
/-- What so many cells from where a slice begins hold. -/
theorem readD_ok (hh : HpOk S ρ w0 h w) {k : IntKind} {l : Leaf} {n t : T} {c : List T} (hb : readD k h l n = some (c, t)) (hm : Met S ρ c) :
    ∃ r s d ln cp, l = .sl r s d ln cp ∧ (t.A S ρ).length = (n.I S ρ).toNat ∧
      ∀ j v, ((t.A S ρ).map (Value.int k))[j]? = some v → w.cell? ((addrOf S ρ w0.heap.size r s d).add j) = some v := by
  unfold readD at hb
  split at hb
  · rename_i r s d ln cp
    refine ⟨r, s, d, ln, cp, rfl, ?_⟩
    have fin : ∀ (a : T) (i : T) (u : T) (jj : Nat), i.I S ρ = jj + d.I S ρ → u.I S ρ ≤ (a.A S ρ).length → Met S ρ (needs [mkLe (.lit 0) d, mkLe (.lit 0) n, mkLe (mkAdd i n) u]) →
        (∀ q v, (a.A S ρ)[q]? = some v → jj ≤ q → w.cell? ⟨r.blk ρ w0.heap.size, r.off ρ + s + (q - jj), none⟩ = some (.int k v)) →
        ((T.cut a i n).A S ρ).length = (n.I S ρ).toNat ∧ ∀ j v, (((T.cut a i n).A S ρ).map (Value.int k))[j]? = some v → w.cell? ((addrOf S ρ w0.heap.size r s d).add j) = some v := by
      intro a i u jj hi hu hm hc
      obtain ⟨b1, b2, b3⟩ := met3 hm
      have b1 := le_of b1; have b2 := le_of b2; have b3 := le_of b3
      simp only [T.I, mkAdd_I] at b1 b2 b3
      refine ⟨by simp [T.A]; omega, fun j v hj => ?_⟩
      simp only [T.A, List.getElem?_map, Option.map_eq_some_iff] at hj
      obtain ⟨x, hx, rfl⟩ := hj
      rw [List.getElem?_take] at hx
      split at hx
      · rename_i hjn
        rw [List.getElem?_drop] at hx
        have := hc _ _ hx (by omega)
        simp only [addrOf, addr_add]
        rw [show r.off ρ + s + (d.I S ρ).toNat + j = r.off ρ + s + ((i.I S ρ).toNat + j - jj) from by omega]
        exact this
      · cases hx
    split at hb
    · rename_i b hf
      have hmem := findB_mem hf
      have hrw := hh.rw_ _ hmem
      have hoff := hh.off _ hmem
      have hwf := hh.wf _ hmem
      simp only at hrw hoff hwf
      have hcell : ∀ {p : List Seg} {x : Seg} {q : List Seg} {jj : Nat} {a : T}, b.segs = p ++ x :: q → (segsDen S ρ w0.heap.size p).length + jj = s → x.den S ρ w0.heap.size = (a.A S ρ).map (Value.int k) →
          ∀ q v, (a.A S ρ)[q]? = some v → jj ≤ q → w.cell? ⟨r.blk ρ w0.heap.size, r.off ρ + s + (q - jj), none⟩ = some (.int k v) := by
        intro p x q jj a e1 e2 e3 q v hv hq
        rw [cell_of_row w _ _ _ _ _ hrw, List.getElem?_toArray, e1, segsDen_append, segsDen_cons, e3, hoff]
        have hlt := (List.getElem?_eq_some_iff.1 hv).1
        rw [List.getElem?_append_right (by omega), List.getElem?_append_left (by simp; omega)]
        rw [show 0 + s + (q - jj) - (segsDen S ρ w0.heap.size p).length = q from by omega]
        simp [hv]
      split at hb
      · rename_i p k' a m jj q hs
        split at hb
        · rename_i hk
          subst hk
          simp only [Option.some.injEq, Prod.mk.injEq] at hb
          obtain ⟨rfl, rfl⟩ := hb
          obtain ⟨h1, h2, h3⟩ := seek_spec (B := w0.heap.size) hwf hs
          have hwf2 := hwf
          rw [h1] at hwf2
          have hl : (a.A S ρ).length = m := (segsWf_cons.1 (segsWf_append.1 hwf2).2).1
          exact fin a _ _ jj (by simp [mkAdd_I, T.I]) (by simp [T.I]; omega) hm (hcell h1 h2 rfl)
        · cases hb
      · rename_i p k' a jj q hs
        split at hb
        · rename_i hk
          subst hk
          simp only [Option.some.injEq, Prod.mk.injEq] at hb
          obtain ⟨rfl, rfl⟩ := hb
          obtain ⟨h1, h2, h3⟩ := seek_spec (B := w0.heap.size) hwf hs
          exact fin a _ _ jj (by simp [mkAdd_I, T.I]) (by simp [T.I]) hm (hcell h1 h2 rfl)
        · cases hb
      · cases hb
    · split at hb
      · rename_i k' a hf
        split at hb
        · rename_i hk
          subst hk
          simp only [Option.some.injEq, Prod.mk.injEq] at hb
          obtain ⟨rfl, rfl⟩ := hb
          refine fin a _ _ s (by simp [mkAdd_I, T.I]) (by simp [T.I]) hm fun q v hv hq => ?_
          have := hh.ro _ (findRO_mem hf) q v hv
          simp only at this
          rw [show r.off ρ + s + (q - s) = r.off ρ + q from by omega]
          exact this
        · cases hb
      · cases hb
  · cases hb
theorem readT_ok (hh : HpOk S ρ w0 h w) {k : IntKind} {l : Leaf} {n t : T} {c : List T} (hb : readT k h l n = some (c, t)) (hm : Met S ρ c) :
    ∃ r s d ln cp, l = .sl r s d ln cp ∧ (t.A S ρ).length = (n.I S ρ).toNat ∧
      ∀ j v, ((t.A S ρ).map (Value.int k))[j]? = some v → w.cell? ((addrOf S ρ w0.heap.size r s d).add j) = some v := by
  unfold readT at hb
  split at hb
  · rename_i m hv
    split at hb
    · rename_i c' g hrd
      split at hb
      · rename_i t' hp
        simp only [Option.some.injEq, Prod.mk.injEq] at hb
        obtain ⟨rfl, rfl⟩ := hb
        obtain ⟨r, s, d, ln, cp, e, g1, g2, g3⟩ := readS_ok hh hrd hm
        have e2 := packT_den (S := S) (ρ := ρ) (B := w0.heap.size) hp
        refine ⟨r, s, d, ln, cp, e, ?_, ?_⟩
        · rw [view_lit hv]
          have := congrArg List.length e2
          rw [List.length_map, g1] at this
          simp [T.I, this]
        · rw [e2]; exact g3
      · cases hb
    · exact readD_ok hh hb hm
  · exact readD_ok hh hb hm
theorem ints_plain (k : IntKind) (l : List Int) : ∀ v ∈ l.map (Value.int k), v.oneCell' = true := by
  intro v hv
  obtain ⟨x, _, rfl⟩ := List.mem_map.1 hv
  rfl
theorem mkMn_toNat {a b : T} (ha : 0 ≤ a.I S ρ) (hb : 0 ≤ b.I S ρ) : ((mkMn a b).I S ρ).toNat = Nat.min (a.I S ρ).toNat (b.I S ρ).toNat := by
  rw [mkMn_I]
  show _ = Min.min _ _
  split <;> omega
/-- A copy of which not all lengths are plain. -/
theorem copyD_ok (hh : HpOk S ρ w0 h w) {t u ty : TypeId} {x y : Leaf} {r : Res} (hb : copyD P t x y h = some r) (hm : Met S ρ r.need) :
    r.val.wf S ρ ∧ ∃ w', (Builtin.copy_ #[t, u] ty #[x.den S ρ w0.heap.size, y.den S ρ w0.heap.size]).run P w = .ok (r.val.den S ρ w0.heap.size) w' ∧ HpOk S ρ w0 r.heap w' := by
  unfold copyD at hb
  split at hb
  · rename_i e q s d ln cp r2 s2 d2 ln2 cp2 hu
    split at hb
    · rename_i b hf
      split at hb
      · rename_i hz
        have hmem := findB_mem hf
        have hrw := hh.rw_ _ hmem
        have hoff := hh.off _ hmem
        have hwf := hh.wf _ hmem
        simp only at hrw hoff hwf
        have ha : addrOf S ρ w0.heap.size q s d = ⟨q.blk ρ w0.heap.size, s + (d.I S ρ).toNat, none⟩ := by simp [addrOf, hoff]
        have key : ∀ {p : List Seg} {X : Seg} {qs : List Seg} {k : IntKind} {a g : T} {jj : Nat} {c : List T} {Y : Seg} {u' : T}, b.segs = p ++ X :: qs → (segsDen S ρ w0.heap.size p).length + jj = s → X.den S ρ w0.heap.size = (a.A S ρ).map (Value.int k) →
            readT k h (.sl r2 s2 d2 ln2 cp2) (mkMn ln ln2) = some (c, g) → u'.I S ρ ≤ (a.A S ρ).length → Met S ρ (c ++ needs [mkLe (.lit 0) ln, mkLe (.lit 0) ln2, mkLe (.lit 0) d, mkLe (mkAdd (mkAdd (.lit jj) d) (mkMn ln ln2)) u']) →
            Y.den S ρ w0.heap.size = ((T.splice a (mkAdd (.lit jj) d) g).A S ρ).map (Value.int k) → (((T.splice a (mkAdd (.lit jj) d) g).A S ρ).length = (a.A S ρ).length → segsWf S ρ (p ++ Y :: qs)) →
            ∃ w', (Builtin.copy_ #[t, u] ty #[(Leaf.sl q s d ln cp).den S ρ w0.heap.size, (Leaf.sl r2 s2 d2 ln2 cp2).den S ρ w0.heap.size]).run P w = .ok (Value.int .i64 ((mkMn ln ln2).I S ρ)) w' ∧
              HpOk S ρ w0 { h with rw := setB h.rw q { b with segs := p ++ Y :: qs } } w' := by
          intro p X qs k a g jj c Y u' e1 e2 e3 hrd hu' hm e4 e5
          obtain ⟨m1, m2⟩ := met_append.1 hm
          have m2 := met_needs m2
          have b1 := le_of (met_cons.1 m2).1
          have b2 := le_of (met_cons.1 (met_cons.1 m2).2).1
          have b3 := le_of (met_cons.1 (met_cons.1 (met_cons.1 m2).2).2).1
          have b4 := le_of (met_cons.1 (met_cons.1 (met_cons.1 (met_cons.1 m2).2).2).2).1
          simp only [T.I, mkAdd_I] at b1 b2 b3 b4
          obtain ⟨r', s', d', ln', cp', heq, g1, g3⟩ := readT_ok hh hrd m1
          injection heq with h1 h2 h3 h4 h5
          subst h1 h2 h3 h4 h5
          have hmn := mkMn_toNat (S := S) (ρ := ρ) (a := ln) (b := ln2) b1 b2
          have hmi : (0 : Int) ≤ (mkMn ln ln2).I S ρ := by rw [mkMn_I]; split <;> omega
          have hlen : (segsDen S ρ w0.heap.size b.segs).length = (segsDen S ρ w0.heap.size p).length + ((a.A S ρ).length + (segsDen S ρ w0.heap.size qs).length) := by
            rw [e1, segsDen_append, segsDen_cons, e3]; simp
          have hcp := run_copy_row (P := P) w t u ty e (q.blk ρ w0.heap.size) (s + (d.I S ρ).toNat) (ln.I S ρ).toNat (cp.I S ρ).toNat (addrOf S ρ w0.heap.size r2 s2 d2) (ln2.I S ρ).toNat (cp2.I S ρ).toNat _ b.ty ((g.A S ρ).map (Value.int k)) hu hz hrw
            (by rw [List.length_map, g1, hmn]; exact Nat.min_comm _ _) g3 (by rw [List.length_map, g1, List.size_toArray, hlen]; omega) (ints_plain _ _)
          have hsp : segsDen S ρ w0.heap.size (p ++ Y :: qs) = (segsDen S ρ w0.heap.size b.segs).take (s + (d.I S ρ).toNat) ++ ((g.A S ρ).map (Value.int k) ++ (segsDen S ρ w0.heap.size b.segs).drop (s + (d.I S ρ).toNat + (g.A S ρ).length)) := by
            have := splice_mid (segsDen S ρ w0.heap.size p) ((a.A S ρ).map (Value.int k)) (segsDen S ρ w0.heap.size qs) (jj + (d.I S ρ).toNat) ((g.A S ρ).map (Value.int k)) (by simp only [List.length_map, g1]; omega)
            simp only [List.length_map] at this
            rw [e1, segsDen_append, segsDen_cons, segsDen_append, segsDen_cons, e3, e4, ← e2, Nat.add_assoc (segsDen S ρ w0.heap.size p).length, this]
            simp only [T.A, spliceL, mkAdd_I, T.I, List.map_append, List.map_take, List.map_drop]
            rw [show ((jj : Int) + d.I S ρ).toNat = jj + (d.I S ρ).toNat from by omega]
          refine ⟨w.setRow (q.blk ρ w0.heap.size) (segsDen S ρ w0.heap.size (p ++ Y :: qs)).toArray, ?_, hh.upd hf (segs := p ++ Y :: qs) (e5 ?_) (setRow_heap w _ _ _ _ _ hrw) (fun i hi => setRow_other w _ _ _ hi) (by simp) rfl rfl rfl⟩
          · simp only [Leaf.den]
            rw [ha, hcp, hsp]
            simp only [List.length_map, g1, goInt]
            rw [Int.toNat_of_nonneg hmi]
            simp
          · simp only [T.A, spliceL, mkAdd_I, T.I, List.length_append, List.length_take, List.length_drop, g1]
            omega
        split at hb
        · rename_i p k a m jj qs hs
          obtain ⟨h1, h2, h3⟩ := seek_spec (B := w0.heap.size) hwf hs
          have hwf2 := hwf
          rw [h1] at hwf2
          have hl : (a.A S ρ).length = m := (segsWf_cons.1 (segsWf_append.1 hwf2).2).1
          simp only at hb
          split at hb
          · rename_i c g hrd
            simp only [Option.some.injEq] at hb
            subst hb
            refine ⟨trivial, key h1 h2 rfl hrd (by simp [T.I]; omega) hm rfl fun hle => ?_⟩
            have := segsWf_append.1 hwf2
            exact segsWf_append.2 ⟨this.1, segsWf_cons.2 ⟨by show _ = m; rw [hle]; exact hl, (segsWf_cons.1 this.2).2⟩⟩
          · cases hb
        · rename_i p k a jj qs hs
          obtain ⟨h1, h2, h3⟩ := seek_spec (B := w0.heap.size) hwf hs
          simp only at hb
          split at hb
          · rename_i c g hrd
            simp only [Option.some.injEq] at hb
            subst hb
            refine ⟨trivial, key h1 h2 rfl hrd (by simp [T.I]) hm rfl fun hle => ?_⟩
            have hwf2 := hwf
            rw [h1] at hwf2
            have := segsWf_append.1 hwf2
            exact segsWf_append.2 ⟨this.1, segsWf_cons.2 ⟨trivial, (segsWf_cons.1 this.2).2⟩⟩
          · cases hb
        · cases hb
      · cases hb
    · cases hb
  · cases hb
/-- A copy. -/
theorem copy_ok (hh : HpOk S ρ w0 h w) {t u ty : TypeId} {x y : Leaf} {r : Res} (hb : copyS P t x y h = some r) (hm : Met S ρ r.need) :
    r.val.wf S ρ ∧ ∃ w', (Builtin.copy_ #[t, u] ty #[x.den S ρ w0.heap.size, y.den S ρ w0.heap.size]).run P w = .ok (r.val.den S ρ w0.heap.size) w' ∧ HpOk S ρ w0 r.heap w' := by
  unfold copyS at hb
  split at hb
  · rename_i e q s d ln cp r2 s2 d2 ln2 cp2 hu
    split at hb
    · rename_i p1 p2 b hz hv1 hv2 hf
      split at hb
      · rename_i c g hrd
        split at hb
        · rename_i hpl
          split at hb
          · rename_i c' g' hst
            simp only [Option.some.injEq] at hb
            subst hb
            obtain ⟨m1, m2⟩ := met_append.1 hm
            obtain ⟨r', s', d', ln', cp', heq, g1, g2, g3⟩ := readS_ok hh hrd m1
            injection heq with e1 e2 e3 e4 e5
            subst e1 e2 e3 e4 e5
            have hmem := findB_mem hf
            have hrw := hh.rw_ _ hmem
            have hoff := hh.off _ hmem
            have hwf := hh.wf _ hmem
            simp only at hrw hoff hwf
            obtain ⟨h1, h2, h3⟩ := storeMany_spec (B := w0.heap.size) hwf g2 g1 hst m2
            have hsz : (P.info? e).map (·.size) = some 1 := hz
            have hl1 : (ln.I S ρ).toNat = p1 := by rw [view_lit hv1]; simp [T.I]
            have hl2 : (ln2.I S ρ).toNat = p2 := by rw [view_lit hv2]; simp [T.I]
            have hcp := run_copy_row (P := P) w t u ty e (q.blk ρ w0.heap.size) (s + (d.I S ρ).toNat) p1 (cp.I S ρ).toNat (addrOf S ρ w0.heap.size r2 s2 d2) p2 (cp2.I S ρ).toNat _ b.ty (segsDen S ρ w0.heap.size g) hu hsz hrw g1 g3
              (by rw [g1]; simpa using h3) (plain_segs hpl)
            refine ⟨trivial, _, ?_, hh.upd hf (segs := joinCells g') ((joinCells_den (S := S) (ρ := ρ) (B := w0.heap.size) g').2 h2) (w' := w.setRow (q.blk ρ w0.heap.size) (segsDen S ρ w0.heap.size (joinCells g')).toArray) (setRow_heap w _ _ _ _ _ hrw) (fun i hi => setRow_other w _ _ _ hi) (by simp) rfl rfl rfl⟩
            simp only [Leaf.den, hl1, hl2]
            have ha : addrOf S ρ w0.heap.size q s d = ⟨q.blk ρ w0.heap.size, s + (d.I S ρ).toNat, none⟩ := by simp [addrOf, hoff]
            rw [ha, hcp, g1, (joinCells_den (S := S) (ρ := ρ) (B := w0.heap.size) g').1, h1]
            simp [goInt, SR.den, SV.den, Leaf.den, T.I]
          · cases hb
        · cases hb
      · cases hb
    · cases hb
  · cases hb
end
end
end Go.Proofs.YtljjbikbfeigdaaGreatDoor
namespace Go.Proofs.YtljjbikbfeigdaaGreatDoor
noncomputable section
open Go
/-- A summary of function f: what it gives on symbolic values is what a call of it gives. -/
def SpecOk (P : Program) (S : Sig) (f : FuncId) (s : Spec) : Prop :=
  ∀ (ρ : Env) (w0 w : World) (h : Hp) (args : List SR) (r : Res), s args h = some r → Met S ρ r.need → (∀ x ∈ args, x.wf S ρ) → HpOk S ρ w0 h w →
    r.val.wf S ρ ∧ Calls P f (args.map (SR.den S ρ w0.heap.size)).toArray w (fun e w' => e = .returned (r.val.den S ρ w0.heap.size) ∧ HpOk S ρ w0 r.heap w')
section
variable {S : Sig} {ρ : Env} {w0 w : World} {h : Hp} {P : Program} {B : Nat}
theorem evs_den {fr : Nat → SR} {a : Act} {xs : Array Operand} (hf : ∀ t, (fr t).wf S ρ) (ha : Agree S ρ B fr a xs) : ∀ {l : List Operand} {r : List SR}, (∀ x ∈ l, x ∈ xs) → l.mapM (evS fr) = some r →
    l.map a.eval = r.map (SR.den S ρ B) ∧ ∀ x ∈ r, x.wf S ρ
  | [], r, _, h => by simp at h; subst h; exact ⟨rfl, fun _ h => nomatch h⟩
  | x :: l, r, hl, h => by
    simp only [List.mapM_cons, Option.bind_eq_bind, Option.pure_def] at h
    cases hx : evS fr x with
    | none => simp [hx] at h
    | some y =>
      cases hr : l.mapM (evS fr) with
      | none => simp [hx, hr] at h
      | some r' =>
        simp [hx, hr] at h
        subst h
        obtain ⟨h1, h2⟩ := evs_den hf ha (fun x hx => hl x (by simp [hx])) hr
        refine ⟨by simp [evS_den ha (hl x (by simp)) hx, h1], fun z hz => ?_⟩
        rcases List.mem_cons.1 hz with rfl | hz
        · exact evS_wf hf hx
        · exact h2 z hz
theorem parts_den {fr : Nat → SR} {a : Act} {xs : Array Operand} (hf : ∀ t, (fr t).wf S ρ) (ha : Agree S ρ B fr a xs) : ∀ {l : List (Nat × Operand)} {r : List (Nat × SR)}, (∀ x ∈ l, x.2 ∈ xs) → l.mapM (fun (i, x) => (evS fr x).map fun v => (i, v)) = some r →
    l.map (fun p => (p.1, a.eval p.2)) = r.map (fun p => (p.1, p.2.den S ρ B)) ∧ ∀ x ∈ r, x.2.wf S ρ
  | [], r, _, h => by simp at h; subst h; exact ⟨rfl, fun _ h => nomatch h⟩
  | (i, x) :: l, r, hl, h => by
    simp only [List.mapM_cons, Option.bind_eq_bind, Option.pure_def] at h
    cases hx : evS fr x with
    | none => simp [hx] at h
    | some y =>
      cases hr : l.mapM (fun (i, x) => (evS fr x).map fun v => (i, v)) with
      | none => simp [hx, hr] at h
      | some r' =>
        simp [hx, hr] at h
        subst h
        obtain ⟨h1, h2⟩ := parts_den hf ha (fun x hx => hl x (by simp [hx])) hr
        refine ⟨by simp [evS_den ha (hl (i, x) (by simp)) hx, h1], fun z hz => ?_⟩
        rcases List.mem_cons.1 hz with rfl | hz
        · exact evS_wf hf hx
        · exact h2 z hz
theorem hasBody_run {f : FuncId} {args : Array Value} (h : hasBody P f = true) : (callFunc f args).run P w = .ok (.enter f args) w := by
  unfold hasBody at h
  cases hf : P.funcs[f]? with
  | none => simp [hf] at h
  | some fn =>
    simp only [hf, Bool.and_eq_true, Bool.not_eq_true'] at h
    obtain ⟨h1, h2⟩ := h
    have h3 : fn.body.isNone = false := by cases hb : fn.body <;> simp [hb] at h1 ⊢
    unfold callFunc
    simp only [program, Sem.run_bind, Sem.run, Result.andThen_ok, hf, h2, h3, Bool.false_eq_true, if_false, Sem.run_pure]
theorem method_run {t : TypeId} {name : String} {f : FuncId} {v : Value} (h : methodS P t name = some f) (k : Nat) : (method (k + 1) t v name).run P w = .ok (f, v) w := by
  unfold methodS at h
  split at h
  · rename_i i hi
    split at h
    · rename_i m hm
      split at h
      · rename_i hp
        split at h
        · rename_i g e hg hu
          injection h with h
          subst h
          have hp' : m.path = #[] := by simpa using hp
          simp [method, typeInfo, hi, hm, hp', follow, hg, receiverAt, run_underlying hu, Place.get]
        · cases h
      · cases h
    · cases h
  · cases h
theorem call_run {fr : Nat → SR} {a : Act} {c : Call} {t : TypeId} {f : FuncId} {args : List SR} (hf : ∀ t, (fr t).wf S ρ) (ha : Agree S ρ B fr a c.operands) (h : callS P fr c = some (f, args)) :
    (do let d ← resolve a.eval c t; invoke d.target d.args : Sem Next).run P w = .ok (.enter f (args.map (SR.den S ρ B)).toArray) w ∧ ∀ x ∈ args, x.wf S ρ := by
  unfold callS at h
  simp only at h
  split at h
  · rename_i g hc
    split at h
    · rename_i hb
      cases hm : c.args.toList.mapM (evS fr) with
      | none => simp [hm] at h
      | some r =>
        simp [hm] at h
        obtain ⟨rfl, rfl⟩ := h
        obtain ⟨h1, h2⟩ := evs_den hf ha (fun x hx => by simp [Call.operands, hc]; exact .inr (by simpa using hx)) hm
        refine ⟨?_, h2⟩
        have h3 : (c.args.map a.eval) = (r.map (SR.den S ρ B)).toArray := by rw [← h1, ← Array.toList_map]
        simp [resolve, hc, Act.eval, Deferred.ofValue, invoke, hasBody_run hb, h3]
    · cases h
  · rename_i x name hc
    split at h
    · rename_i ti l hx
      split at h
      · rename_i g hg
        split at h
        · rename_i hb
          cases hm : c.args.toList.mapM (evS fr) with
          | none => simp [hm] at h
          | some r =>
            simp [hm] at h
            obtain ⟨rfl, rfl⟩ := h
            obtain ⟨h1, h2⟩ := evs_den hf ha (fun x hx => by simp [Call.operands, hc]; exact .inr (by simpa using hx)) hm
            refine ⟨?_, fun z hz => ?_⟩
            · have h3 : (c.args.map a.eval) = (r.map (SR.den S ρ B)).toArray := by rw [← h1, ← Array.toList_map]
              have h4 := evL_den ha (x := x) (by simp [Call.operands, hc]) hx
              obtain ⟨k, hk⟩ : ∃ k, P.types.size + Made.depth = k + 1 := ⟨P.types.size + (Made.depth - 1), by unfold Made.depth; omega⟩
              have h5 := method_run (w := w) (v := l.den S ρ B) hg k
              simp [resolve, hc, h4, Leaf.den, invoke, callMethod, program, Sem.run, hk, h5, hasBody_run hb, h3, Leaf.sr, SR.den, SV.den]
              rw [List.take_of_length_le (by simp)]
            · rcases List.mem_cons.1 hz with rfl | hz
              · trivial
              · exact h2 z hz
        · cases h
      · cases h
    · cases h
  · cases h
end
end
end Go.Proofs.YtljjbikbfeigdaaGreatDoor
namespace Go.Proofs.YtljjbikbfeigdaaGreatDoor
noncomputable section
open Go
section
variable {P : Program}
theorem plainKey_int {e : TypeId} {q : IntKind} (he : P.underlying e = some (.int q)) : P.plainKey e = true := by
  unfold Program.plainKey; rw [he]
theorem run_eqItems_ints (d : Nat) {e : TypeId} {q k : IntKind} (he : P.underlying e = some (.int q)) (w : World) (X Y : List Int) (hl : X.length = Y.length) : ∀ (m s : Nat), s + m = X.length →
    (Op.eqItems (d + 1) e 1 (X.map (Value.int k)).toArray (Y.map (Value.int k)).toArray (List.range' s m)).run P w = .ok (decide (X.drop s = Y.drop s)) w
  | 0, s, h => by
    rw [List.drop_of_length_le (by omega), List.drop_of_length_le (by omega)]
    simp [Op.eqItems]
  | m + 1, s, h => by
    have ih := run_eqItems_ints (k := k) d he w X Y hl m (s + 1) (by omega)
    have hx : s < X.length := by omega
    have hy : s < Y.length := by omega
    have p1 := run_part_plain w (plainKey_int he) (xs := (X.map (Value.int k)).toArray) (off := s * 1) (v := .int k X[s]) (by simp [hx])
    have p2 := run_part_plain w (plainKey_int he) (xs := (Y.map (Value.int k)).toArray) (off := s * 1) (v := .int k Y[s]) (by simp [hy])
    have p3 := run_equalIn_int w d e k q X[s] Y[s] he
    rw [List.range'_succ]
    simp only [Op.eqItems, Sem.run_bind, p1, p2, p3, Result.andThen_ok]
    rw [List.drop_eq_getElem_cons hx, List.drop_eq_getElem_cons hy]
    by_cases hxy : X[s] = Y[s]
    · simp only [hxy, BEq.rfl, Bool.not_true, Bool.false_eq_true, if_false, ih, List.cons.injEq, true_and]
    · have : (X[s] == Y[s]) = false := by simpa using hxy
      have hne : ¬ (X[s] :: X.drop (s + 1) = Y[s] :: Y.drop (s + 1)) := fun h => hxy (List.cons.inj h).1
      simp only [this, Bool.not_false, if_true, Sem.run_pure, decide_eq_false hne]
theorem run_equal_ints {t e : TypeId} {n : Nat} {q k : IntKind} (hu : P.underlying t = some (.array n e)) (he : P.underlying e = some (.int q)) (hs : sizeT P e = some 1) (w : World) (X Y : List Int) (hx : X.length = n) (hy : Y.length = n) :
    (Op.equal t (.agg (X.map (Value.int k)).toArray) (.agg (Y.map (Value.int k)).toArray)).run P w = .ok (decide (X = Y)) w := by
  obtain ⟨i, hi⟩ := info_of_underlying he
  have hc : P.cellsOf e = 1 := by
    unfold sizeT at hs
    unfold Program.cellsOf
    rw [hi] at hs ⊢
    simpa using hs
  unfold Op.equal Op.maxDepth
  rw [run_equalIn_array w 9999 _ _ hu hi, hc, List.range_eq_range']
  have := run_eqItems_ints (k := k) 9998 he w X Y (by omega) n 0 (by omega)
  simpa using this
theorem eqGuard_ints {op : BinOp} {t e : TypeId} {n : Nat} {q : IntKind} (hu : P.underlying t = some (.array n e)) (he : P.underlying e = some (.int q)) (w : World) (x y : Operand) (a b : Array Value) :
    (eqGuard op t x y (.agg a) (.agg b)).run P w = .ok () w := by
  have hd : P.eqGuardType P.depth t = false := by
    have : P.depth = (2 * (P.types.size + Made.depth)) + 1 + 1 := rfl
    rw [this]
    simp only [Program.eqGuardType, hu, he]
  unfold eqGuard
  cases op <;> simp [program, Sem.run, hd] <;> rfl
end
end
end Go.Proofs.YtljjbikbfeigdaaGreatDoor
namespace Go.Proofs.YtljjbikbfeigdaaGreatDoor
noncomputable section
open Go
section
variable {S : Sig} {ρ : Env} {w0 w : World} {h : Hp} {P : Program} {B : Nat}
/-- The operation yields its value and leaves the memory that is told. -/
def Does (P : Program) (S : Sig) (ρ : Env) (w0 : World) (a : Act) (w : World) (o : Oper) (r : Res) : Prop :=
  r.val.wf S ρ ∧ ∀ (K : Act → World → Prop) (Q : Exit → Act → World → Prop), (∀ w', HpOk S ρ w0 r.heap w' → K (a.put o.dst (r.val.den S ρ w0.heap.size)) w') → o.wp P a w K Q
theorem Does.of_yields {a : Act} {o : Oper} {r : Res} {w' : World} (hw : r.val.wf S ρ) (hy : Yields P a w o (r.val.den S ρ w0.heap.size) w') (hh : HpOk S ρ w0 r.heap w') : Does P S ρ w0 a w o r :=
  ⟨hw, fun _ _ hK => hy.wp (hK w' hh)⟩
theorem does_pure {a : Act} {o : Oper} {x : SR} {c : List T} (hh : HpOk S ρ w0 h w) (hw : x.wf S ρ) (hy : (execOp a.eval o).run P w = .ok (.value (x.den S ρ w0.heap.size)) w) : Does P S ρ w0 a w o ⟨c, x, h⟩ :=
  .of_yields hw (.inl hy) hh
theorem den_agg (g : List Seg) : (SV.agg g).den S ρ B = .agg (segsDen S ρ B g).toArray := rfl
theorem bs_size (l : List UInt8) : (ByteArray.mk l.toArray).size = l.length := by simp [ByteArray.size]
theorem bs_get (l : List UInt8) (i : Nat) (h : i < l.length) : (ByteArray.mk l.toArray)[i]? = some (l[i]) := by
  rw [getElem?_pos _ _ (by rw [bs_size]; exact h)]; rfl
theorem least_none {l : List String} (h : Instr.least l = none) : l = [] := by
  cases l with
  | nil => rfl
  | cons a l => simp [Instr.least] at h
theorem lacks_none {want : Array (String × TypeId)} {got : Array Method} (h : lacks want got = none) : Instr.missingMethod want got = none := by
  unfold lacks at h
  split at h
  · rename_i he
    unfold Instr.missingMethod
    simp only [he]
    rfl
  · cases h
theorem lacks_some {want : Array (String × TypeId)} {got : Array Method} {u : Unit} (h : lacks want got = some u) : ∃ s, Instr.missingMethod want got = some s := by
  unfold lacks at h
  split at h
  · cases h
  · rename_i x l he
    unfold Instr.missingMethod
    simp only [he, List.map_cons, List.partition_eq_filter_filter]
    cases h1 : Instr.least ((x.1 :: l.map (·.1)).filter (not ∘ (·.contains (Char.ofNat 46)))) with
    | some s => exact ⟨s, by simp [h1]⟩
    | none =>
      have n1 := least_none h1
      cases h2 : Instr.least (((x.1 :: l.map (·.1)).filter (·.contains (Char.ofNat 46))).map fun id => (id.splitOn ".").getLastD id) with
      | some s => exact ⟨s, by simp [h1, h2]⟩
      | none =>
        have n2 := least_none h2
        rw [List.map_eq_nil_iff] at n2
        by_cases hc : (x.1.contains (Char.ofNat 46)) = true
        · rw [List.filter_cons_of_pos (p := fun (s : String) => s.contains (Char.ofNat 46)) hc] at n2; cases n2
        · rw [List.filter_cons_of_pos (p := not ∘ fun (s : String) => s.contains (Char.ofNat 46)) (by show (!x.1.contains (Char.ofNat 46)) = true; rw [Bool.eq_false_iff.2 hc]; rfl)] at n1; cases n1
set_option maxHeartbeats 4000000 in
theorem step_ok {specs : Nat → Option Spec} (hsp : ∀ f s, specs f = some s → SpecOk P S f s) {fr : Nat → SR} {o : Oper} {r : Res} {a : Act} (hs : step P specs fr h o = some r) (hm : Met S ρ r.need)
    (hf : ∀ t, (fr t).wf S ρ) (ha : Agree S ρ w0.heap.size fr a o.op.operands) (hh : HpOk S ρ w0 h w) : Does P S ρ w0 a w o r := by
  obtain ⟨dst, op, type, pos, after, guard⟩ := o
  cases op with
  | move x =>
    simp only [step, stMove] at hs
    cases hx : evS fr x with
    | none => simp [hx] at hs
    | some v =>
      simp [hx] at hs; subst hs
      exact does_pure hh (evS_wf hf hx) (by simp [execOp, evS_den ha (by simp [Op.operands]) hx])
  | assign x =>
    simp only [step, stMove] at hs
    cases hx : evS fr x with
    | none => simp [hx] at hs
    | some v =>
      simp [hx] at hs; subst hs
      exact does_pure hh (evS_wf hf hx) (by simp [execOp, evS_den ha (by simp [Op.operands]) hx])
  | pick c x y =>
    simp only [step, stPick] at hs
    split at hs
    · rename_i t tx ty hc hx hy
      simp only [okRes, Option.some.injEq] at hs; subst hs
      refine does_pure hh trivial ?_
      have e1 := evL_den ha (x := c) (by simp [Op.operands]) hc
      have e2 := evL_den ha (x := x) (by simp [Op.operands]) hx
      have e3 := evL_den ha (x := y) (by simp [Op.operands]) hy
      simp only [execOp, e1, e2, e3, Leaf.den, asBool, Sem.run_bind, Sem.run_pure, Result.andThen_ok, boolL, SR.den, SV.den, mkBite_B]
      cases t.B S ρ <;> simp
    · rename_i l _ hc hx _
      simp only [okRes, Option.some.injEq] at hs; subst hs
      refine does_pure hh trivial ?_
      have e1 := evL_den ha (x := c) (by simp [Op.operands]) hc
      have e2 := evL_den ha (x := x) (by simp [Op.operands]) hx
      simp only [execOp, e1, e2, Leaf.den, asBool, Sem.run_bind, Sem.run_pure, Result.andThen_ok, Leaf.sr, SR.den, SV.den, T.B, if_true]
    · rename_i _ l hc hy _
      simp only [okRes, Option.some.injEq] at hs; subst hs
      refine does_pure hh trivial ?_
      have e1 := evL_den ha (x := c) (by simp [Op.operands]) hc
      have e2 := evL_den ha (x := y) (by simp [Op.operands]) hy
      simp only [execOp, e1, e2, Leaf.den, asBool, Sem.run_bind, Sem.run_pure, Result.andThen_ok, Leaf.sr, SR.den, SV.den, T.B, Bool.false_eq_true, if_false]
    · cases hs
    · cases hs
    · cases hs
  | alloc t =>
    simp only [step, stAlloc] at hs
    split at hs
    · rename_i g hz
      simp only [okRes, Option.some.injEq] at hs; subst hs
      obtain ⟨h1, h2⟩ := alloc_ok (P := P) hh hz
      exact .of_yields trivial (.inl (by simp only [execOp, Sem.run_bind, h1, Result.andThen_ok, Sem.run_pure, SR.den, SV.den])) h2
    · cases hs
  | box t x =>
    simp only [step, stBox] at hs
    split at hs
    · rename_i v hx
      split at hs
      · rename_i hp
        simp only [okRes, Option.some.injEq] at hs; subst hs
        have hw : v.wf S ρ := evS_wf hf hx
        obtain ⟨h1, h2⟩ := box_ok (P := P) hh (t := t) hw hp
        have e1 := evS_den ha (x := x) (by simp [Op.operands]) hx
        simp only [SR.den] at e1
        exact .of_yields trivial (.inl (by simp only [execOp, e1, Sem.run_bind, h1, Result.andThen_ok, Sem.run_pure]; rfl)) h2
      · cases hs
    · cases hs
  | build t parts =>
    simp only [step, stBuild] at hs
    have hmem : ∀ x ∈ parts.toList, x.2 ∈ (Op.build t parts).operands := fun x hx => by
      simp only [Op.operands, List.mem_toArray, List.mem_map]; exact ⟨x, hx, rfl⟩
    have hrun : ∀ {ps : List (Nat × SR)} {cells : Array Value}, parts.toList.mapM (fun (i, x) => (evS fr x).map fun v => (i, v)) = some ps → P.built t (ps.map fun p => (p.1, p.2.den S ρ w0.heap.size)) = some cells →
        (Instr.build t (parts.map fun (i, x) => (i, a.eval x))).run P w = .ok (.agg cells) w := by
      intro ps cells hp hb
      apply run_build
      rw [Array.toList_map, (parts_den hf ha hmem hp).1]; exact hb
    split at hs
    · rename_i ps fs z hp hu hz
      split at hs
      · rename_i places hpl
        split at hs
        · rename_i c g hfill
          simp only [okRes, Option.some.injEq] at hs; subst hs
          obtain ⟨i, zv, hi, hzz, hd, hzw⟩ := zeroS_spec (S := S) (ρ := ρ) (B := w0.heap.size) hz
          obtain ⟨h1, h2⟩ := fill_ok (S := S) (ρ := ρ) (B := w0.heap.size) _ hzw (parts_den hf ha hmem hp).2 hfill
          obtain ⟨h3, h4⟩ := joinCells_den (S := S) (ρ := ρ) (B := w0.heap.size) g
          refine does_pure hh (h4 h2) ?_
          have := hrun hp (cells := (segsDen S ρ w0.heap.size g).toArray) (by
            unfold Program.built
            simp only [hi, hu, hzz, hpl]
            rw [← h1, hd])
          simp only [execOp, Sem.run_bind, this, Result.andThen_ok, Sem.run_pure, SR.den, SV.den, h3]
        · cases hs
      · cases hs
    · rename_i ps n e z hp hu hz
      split at hs
      · rename_i m cs hm' hcs
        split at hs
        · rename_i c g hfill
          simp only [okRes, Option.some.injEq] at hs; subst hs
          obtain ⟨i, zv, hi, hzz, hd, hzw⟩ := zeroS_spec (S := S) (ρ := ρ) (B := w0.heap.size) hz
          have hcd : segsDen S ρ w0.heap.size [.cells cs] = zv.cells.toList := by
            rw [← hd, (flatSegs_den (S := S) (ρ := ρ) (B := w0.heap.size) hcs).1]; simp [segsDen_cons, segsDen_nil, Seg.den]
          obtain ⟨h1, h2⟩ := fill_ok (S := S) (ρ := ρ) (B := w0.heap.size) _ (g := [.cells cs]) (fun g hg => by simp at hg; subst hg; trivial) (parts_den hf ha hmem hp).2 hfill
          obtain ⟨h3, h4⟩ := joinCells_den (S := S) (ρ := ρ) (B := w0.heap.size) g
          obtain ⟨h5, h6⟩ := packInts_den (S := S) (ρ := ρ) (B := w0.heap.size) (joinCells g) (h4 h2)
          refine does_pure hh h6 ?_
          unfold sizeT at hm'
          cases hie : P.info? e with
          | none => simp [hie] at hm'
          | some ie =>
            simp [hie] at hm'
            have := hrun hp (cells := (segsDen S ρ w0.heap.size g).toArray) (by
              unfold Program.built
              simp only [hi, hu, hzz, hie, hm']
              rw [← h1, hcd])
            simp only [execOp, Sem.run_bind, this, Result.andThen_ok, Sem.run_pure, SR.den, SV.den, h5, h3]
        · cases hs
      · cases hs
    · cases hs
  | buildSlice t len parts =>
    simp only [step, stBuildSlice] at hs
    have hmem : ∀ x ∈ parts.toList, x.2 ∈ (Op.buildSlice t len parts).operands := fun x hx => by
      simp only [Op.operands, List.mem_toArray, List.mem_map]; exact ⟨x, hx, rfl⟩
    split at hs
    · rename_i ps e hp hu
      split at hs
      · rename_i n z hn hz
        split at hs
        · rename_i cs hcs
          split at hs
          · rename_i hlen
            split at hs
            · rename_i c g hfill
              simp only [okRes, Option.some.injEq] at hs; subst hs
              obtain ⟨i, zv, hi, hzz, hd, hzw⟩ := zeroS_spec (S := S) (ρ := ρ) (B := w0.heap.size) hz
              obtain ⟨h1, h2⟩ := fill_ok (S := S) (ρ := ρ) (B := w0.heap.size) _ (g := [.cells (List.replicate len cs).flatten]) (fun g hg => by simp at hg; subst hg; trivial) (parts_den hf ha hmem hp).2 hfill
              obtain ⟨h3, h4⟩ := joinCells_den (S := S) (ρ := ρ) (B := w0.heap.size) g
              obtain ⟨h5, h6⟩ := packInts_den (S := S) (ρ := ρ) (B := w0.heap.size) (joinCells g) (h4 h2)
              have hcd : segsDen S ρ w0.heap.size [.cells (List.replicate len cs).flatten] = ((Array.range (len * n)).map (zv.cells[· % zv.cells.size]!)).toList := by
                have hz2 : zv.cells.toList = cs.map (Leaf.den S ρ w0.heap.size) := by rw [← hd]; exact (flatSegs_den (S := S) (ρ := ρ) (B := w0.heap.size) hcs).1
                rw [madeCells_many zv.cells n len (by rw [← Array.length_toList, hz2]; simp [hlen.2.2]) (Nat.pos_of_mul_pos_left hlen.2.1), hz2]
                simp [segsDen_cons, segsDen_nil, Seg.den, List.map_flatten]
              rw [hcd] at h1
              refine .of_yields trivial (.inl ?_) (hh.push e h6)
              have h7 : (parts.map fun (i, x) => (i, a.eval x)).toList = ps.map fun p => (p.1, p.2.den S ρ w0.heap.size) := by
                rw [Array.toList_map]; exact (parts_den hf ha hmem hp).1
              have hsz := run_size (w := w) hn
              have hl0 : ¬ (16777216 < len * n) := by omega
              have hl1 : ¬ (len * n = 0) := by omega
              have h8 : Instr.fill (fun i => some (i * n, n)) ((Array.range (len * n)).map (zv.cells[· % zv.cells.size]!)) (parts.map fun (i, x) => (i, a.eval x)).toList = some (segsDen S ρ w0.heap.size g).toArray := by
                rw [h7, ← h1]
              simp only [execOp, Instr.buildSlice, Sem.run_bind, run_underlying hu, Result.andThen_ok, hsz, Sem.run_ite, gt_iff_lt, Nat.reducePow, hl0, hl1, if_false, zeroValue, typeInfo, program, Sem.run, hi, hzz, Sem.run_pure, h8]
              simp [newRow, newObj, Sem.run, SR.den, SV.den, Leaf.den, addr_new hh, T.I, h5, h3]
            · cases hs
          · cases hs
        · cases hs
      · cases hs
    · cases hs
  | load t x =>
    simp only [step, stLoad] at hs
    split at hs
    · rename_i p hx
      split at hs
      · rename_i hu
        cases hl : loadR P t p h with
        | none => simp [hl] at hs
        | some cv =>
          simp [hl] at hs; subst hs
          obtain ⟨h1, h2⟩ := load_ok hh (Option.isSome_iff_exists.1 hu) hl hm
          refine does_pure hh h2 ?_
          simp only [execOp, evL_den ha (x := x) (by simp [Op.operands]) hx, Sem.run_bind, h1, Result.andThen_ok, Sem.run_pure, SR.den]
      · cases hs
    · cases hs
  | store t x y =>
    simp only [step, stStore] at hs
    split at hs
    · rename_i p v hx hy
      cases hl : storeR P t p v h with
      | none => simp [hl] at hs
      | some cv =>
        simp [hl] at hs; subst hs
        have hw : v.wf S ρ := evS_wf hf hy
        obtain ⟨w', h1, h2⟩ := store_ok (P := P) hh hl hw hm
        have e2 := evS_den ha (x := y) (by simp [Op.operands]) hy
        simp only [SR.den] at e2
        refine .of_yields trivial (.inr ⟨?_, rfl⟩) h2
        simp only [execOp, evL_den ha (x := x) (by simp [Op.operands]) hx, e2, Sem.run_bind, h1, Result.andThen_ok, Sem.run_pure]
    · cases hs
  | nilCheck x =>
    simp only [step, stNilCheck] at hs
    split at hs
    · rename_i r' s d hx
      simp only [okRes, Option.some.injEq] at hs; subst hs
      refine does_pure hh trivial ?_
      have e1 := evS_den ha (x := x) (by simp [Op.operands]) hx
      simp only [execOp, e1, SR.den, SV.den, Leaf.den, Sem.run_pure]
    · rename_i ti l hx
      simp only [okRes, Option.some.injEq] at hs; subst hs
      refine does_pure hh trivial ?_
      have e1 := evS_den ha (x := x) (by simp [Op.operands]) hx
      simp only [execOp, e1, SR.den, SV.den, Leaf.den, Sem.run_pure]
    · cases hs
  | binOp op t x y yt =>
    simp only [step, stBinOp] at hs
    split at hs
    · rename_i p q hx hy
      split at hs
      · rename_i ht
        cases hl : binS op p q (isConstOp x) (isConstOp y) with
        | none => simp [hl] at hs
        | some cv =>
          simp [hl] at hs; subst hs
          refine does_pure hh trivial ?_
          have h1 := bin_ok (w := w) (B := w0.heap.size) ht hl hm
          simp only [Sem.run_bind] at h1
          simp only [execOp, evL_den ha (x := x) (by simp [Op.operands]) hx, evL_den ha (x := y) (by simp [Op.operands]) hy, Sem.run_bind, h1, Result.andThen_ok, Sem.run_pure, Leaf.sr, SR.den, SV.den]
      · cases hs
    · split at hs
      · rename_i b hb
        simp only [okRes, Option.some.injEq] at hs; subst hs
        refine does_pure hh trivial ?_
        unfold eqAggS at hb
        split at hb
        · rename_i k a m k' b' m' n e hx hy hu
          have wx : segsWf S ρ [.arr k a m] := evS_wf hf hx
          have wy : segsWf S ρ [.arr k' b' m'] := evS_wf hf hy
          have lx : (a.A S ρ).length = m := wx (.arr k a m) (by simp)
          have ly : (b'.A S ρ).length = m' := wy (.arr k' b' m') (by simp)
          have ex := evS_den ha (x := x) (by simp [Op.operands]) hx
          have ey := evS_den ha (x := y) (by simp [Op.operands]) hy
          simp only [SR.den, SV.den, segsDen_cons, segsDen_nil, List.append_nil, Seg.den] at ex ey
          split at hb
          · rename_i q he
            split at hb
            · rename_i hc
              obtain ⟨rfl, rfl, rfl, hsz⟩ := hc
              cases hb
              have h1 := run_equal_ints (k := k) hu he hsz w (a.A S ρ) (b'.A S ρ) lx ly
              simp only [execOp, ex, ey, Sem.run_bind, eqGuard_ints hu he, binOp, h1, Result.andThen_ok, Sem.run_pure, boolL, SR.den, SV.den, Leaf.den, T.B, leq]
            · cases hb
          · rename_i q he
            split at hb
            · rename_i hc
              obtain ⟨rfl, rfl, rfl, hsz⟩ := hc
              cases hb
              have h1 := run_equal_ints (k := k) hu he hsz w (a.A S ρ) (b'.A S ρ) lx ly
              simp only [execOp, ex, ey, Sem.run_bind, eqGuard_ints hu he, binOp, h1, Result.andThen_ok, Sem.run_pure, boolL, SR.den, SV.den, Leaf.den, T.B, leq]
            · cases hb
          · cases hb
        · cases hb
      · cases hs
    · cases hs
  | unOp op t x =>
    simp only [step, stUnOp] at hs
    split at hs
    · rename_i k b hx
      rw [Option.map_eq_some_iff] at hs
      obtain ⟨⟨c, l⟩, hs, rfl⟩ := hs
      obtain ⟨_, u, rfl, hu⟩ := fitL_ok hs hm
      refine does_pure hh trivial ?_
      simp only [execOp, evL_den ha (x := x) (by simp [Op.operands]) hx, Leaf.den, Op.unary, Op.intArith, Sem.run_bind, Sem.run_pure, Result.andThen_ok, Leaf.sr, SR.den, SV.den, hu, mkSub_I, T.I]
    · rename_i k b hx
      simp only [okRes, Option.some.injEq] at hs; subst hs
      refine does_pure hh trivial ?_
      simp only [execOp, evL_den ha (x := x) (by simp [Op.operands]) hx, Leaf.den, Op.unary, Op.intBits, Sem.run_bind, Sem.run_pure, Result.andThen_ok, intL, SR.den, SV.den, mkBits_I, T.I, bitsOf]
    · rename_i b hx
      simp only [okRes, Option.some.injEq] at hs; subst hs
      refine does_pure hh trivial ?_
      simp only [execOp, evL_den ha (x := x) (by simp [Op.operands]) hx, Leaf.den, Op.unary, Sem.run_bind, Sem.run_pure, Result.andThen_ok, boolL, SR.den, SV.den, mkNot_B]
    · cases hs
  | convert src dst x =>
    simp only [step, stConvert] at hs
    split at hs
    · rename_i d k k' b hsr hd hx
      rw [Option.map_eq_some_iff] at hs
      obtain ⟨⟨c, l⟩, hs, rfl⟩ := hs
      obtain ⟨_, u, rfl, hu⟩ := fitL_ok hs hm
      refine does_pure hh trivial ?_
      simp [execOp, evL_den ha (x := x) (by simp [Op.operands]) hx, Leaf.den, convert, run_underlying hsr, run_underlying hd, Conv.intToInt, Leaf.sr, SR.den, SV.den, hu]
    · cases hs
  | makeInterface t x =>
    simp only [step, stMakeInterface] at hs
    split at hs
    · cases hs
    · rename_i d l hne hd hx
      simp only [okRes, Option.some.injEq] at hs; subst hs
      refine does_pure hh trivial ?_
      simp only [execOp, evL_den ha (x := x) (by simp [Op.operands]) hx, Instr.makeInterface, Sem.run_bind, run_underlying hd, Result.andThen_ok]
      cases d <;> first | (exfalso; exact hne _ _ rfl) | simp [SR.den, SV.den, Leaf.den]
    · cases hs
  | makeSlice t l c =>
    simp only [step, stMakeSlice] at hs
    split at hs
    · rename_i e kl n kc m hu hl hc
      have el := evL_den ha (x := l) (by simp [Op.operands]) hl
      have ec := evL_den ha (x := c) (by simp [Op.operands]) hc
      split at hs
      · rename_i i k hi hz
        split at hs
        · rename_i hnm
          obtain ⟨rfl, hsz⟩ := hnm
          simp only [okRes, Option.some.injEq] at hs; subst hs
          obtain ⟨b1, b2, b3⟩ := met3 hm
          have b1 := le_of b1; have b2 := le_of b2; have b3 := le_of b3
          simp only [T.I, mkMul_I] at b1 b2 b3
          obtain ⟨i', zv, hi', hzz, hd, hzw⟩ := zeroS_spec (S := S) (ρ := ρ) (B := w0.heap.size) hz
          rw [hi] at hi'; injection hi' with hi'; subst hi'
          have hr := run_make (P := P) w t e i zv hu hi hzz kl kc (n.I S ρ) (n.I S ρ) b1 (Int.le_refl _) (by rw [Int.mul_comm]; omega) b3
          have hcells : (madeCells zv.cells ((n.I S ρ).toNat * i.size)).toList = segsDen S ρ w0.heap.size [.arrD k (.rep n (.lit 0))] := by
            have : zv.cells = #[Value.int k 0] := by
              apply Array.ext'
              rw [← hd]; simp [segsDen_cons, segsDen_nil, Seg.den, Leaf.den, T.I]
            rw [this, hsz, Nat.mul_one, toList_madeCells_one]
            simp [segsDen_cons, segsDen_nil, Seg.den, T.A, T.I]
          refine .of_yields trivial (.inl ?_) (hh.push e (segs := fixD [.arrD k (.rep n (.lit 0))]) ((fixD_den (S := S) (ρ := ρ) (B := w0.heap.size) _).2 (fun g hg => by simp at hg; subst hg; trivial)))
          simp only [execOp, el, ec, Leaf.den, Sem.run_bind, hr, Result.andThen_ok, Sem.run_pure, SR.den, SV.den, addr_new hh, (fixD_den (S := S) (ρ := ρ) (B := w0.heap.size) _).1, ← hcells]
        · cases hs
      · rename_i i k q q' hi hz
        split at hs
        · rename_i hnm
          obtain ⟨rfl, hsz, hqq, hq0⟩ := hnm
          simp only [okRes, Option.some.injEq] at hs; subst hs
          obtain ⟨b1, b2, b3⟩ := met3 hm
          have b1 := le_of b1; have b2 := le_of b2; have b3 := le_of b3
          simp only [T.I, mkMul_I] at b1 b2 b3
          obtain ⟨i', zv, hi', hzz, hd, hzw⟩ := zeroS_spec (S := S) (ρ := ρ) (B := w0.heap.size) hz
          rw [hi] at hi'; injection hi' with hi'; subst hi'
          have hr := run_make (P := P) w t e i zv hu hi hzz kl kc (n.I S ρ) (n.I S ρ) b1 (Int.le_refl _) (by rw [Int.mul_comm]; omega) b3
          have hcells : (madeCells zv.cells ((n.I S ρ).toNat * i.size)).toList = segsDen S ρ w0.heap.size [.arrD k (.rep (mkMul n (.lit q)) (.lit 0))] := by
            have hzl : zv.cells.toList = List.replicate q' (Value.int k 0) := by
              rw [← hd]; simp [segsDen_cons, segsDen_nil, Seg.den, T.A, T.I, hqq]
            have := madeCells_many zv.cells q' (n.I S ρ).toNat (by rw [← Array.length_toList, hzl]; simp) hq0
            rw [hsz]
            unfold madeCells
            rw [this, hzl]
            simp only [segsDen_cons, segsDen_nil, List.append_nil, Seg.den, T.A, T.I, mkMul_I, List.map_replicate]
            rw [List.flatten_replicate_replicate]
            congr 1
            rw [hqq]
            obtain ⟨b, hb⟩ := Int.eq_ofNat_of_zero_le b1
            rw [hb, ← Int.natCast_mul, Int.toNat_natCast, Int.toNat_natCast]
          refine .of_yields trivial (.inl ?_) (hh.push e (segs := fixD [.arrD k (.rep (mkMul n (.lit q)) (.lit 0))]) ((fixD_den (S := S) (ρ := ρ) (B := w0.heap.size) _).2 (fun g hg => by simp at hg; subst hg; trivial)))
          simp only [execOp, el, ec, Leaf.den, Sem.run_bind, hr, Result.andThen_ok, Sem.run_pure, SR.den, SV.den, addr_new hh, (fixD_den (S := S) (ρ := ρ) (B := w0.heap.size) _).1, ← hcells]
        · cases hs
      · cases hs
    · cases hs
  | slice t x lo hi mx =>
    simp only [step, stSlice] at hs
    split at hs
    · rename_i p hx
      cases hl : sliceS P t p fr lo hi mx with
      | none => simp [hl] at hs
      | some cv =>
        simp [hl] at hs; subst hs
        refine does_pure hh trivial ?_
        have h1 := slice_ok (w := w) (B := w0.heap.size) ha (fun x hx => by simp [Op.operands, hx]) (fun x hx => by simp [Op.operands, hx]) (fun x hx => by simp [Op.operands, hx]) hl hm
        simp only [execOp, evL_den ha (x := x) (by simp [Op.operands]) hx, Sem.run_bind, h1, Result.andThen_ok, Sem.run_pure, Leaf.sr, SR.den, SV.den, normL_den]
    · cases hs
  | fieldAddr t x f =>
    simp only [step, stFieldAddr] at hs
    split at hs
    · rename_i r' s d q hx hq
      split at hs
      · rename_i n hn
        simp only [okRes, Option.some.injEq] at hs; subst hs
        refine does_pure hh trivial ?_
        have hd := le_of (met_one hm)
        unfold fieldT at hq
        split at hq
        · rename_i fs hu
          have e := run_size (w := w) hn
          simp [execOp, evL_den ha (x := x) (by simp [Op.operands]) hx, Leaf.den, Instr.fieldAt, run_underlying hu, hq, Instr.sureAddr, fieldPlace, e, SR.den, SV.den, addrOf, addr_add]
        · cases hq
      · cases hs
    · cases hs
  | field t x f =>
    simp only [step, stField] at hs
    split at hs
    · rename_i g q hx hq
      split at hs
      · rename_i hqu
        cases hl : partS P q.type g q.offset with
        | none => simp [hl] at hs
        | some v =>
          simp [hl] at hs; subst hs
          have hw : segsWf S ρ g := evS_wf hf hx
          obtain ⟨h1, h2⟩ := part_ok (w := w) (B := w0.heap.size) (Option.isSome_iff_exists.1 hqu) hw hl
          refine does_pure hh h2 ?_
          unfold fieldT at hq
          split at hq
          · rename_i fs hu
            simp only [execOp, evS_den ha (x := x) (by simp [Op.operands]) hx, SR.den, Sem.run_bind, Sem.run_pure, Result.andThen_ok, den_agg, Instr.field, run_underlying hu, hq, asAgg, h1]
          · cases hq
      · cases hs
    · cases hs
  | indexAddr t x i =>
    simp only [step, stIndexAddr] at hs
    split at hs
    · rename_i p q hx hi
      cases hl : indexS P t p q with
      | none => simp [hl] at hs
      | some cv =>
        simp [hl] at hs; subst hs
        refine does_pure hh trivial ?_
        have h1 := index_ok (w := w) (B := w0.heap.size) hl hm
        simp only [execOp, evL_den ha (x := x) (by simp [Op.operands]) hx, evL_den ha (x := i) (by simp [Op.operands]) hi, Sem.run_bind, h1, Result.andThen_ok, Sem.run_pure, Leaf.sr, SR.den, SV.den]
    · cases hs
  | index t x i =>
    simp only [step, stIndex] at hs
    split at hs
    · rename_i g k q n e hx hi hu
      split at hs
      · rename_i z hz
        split at hs
        · rename_i hq
          obtain ⟨q0, q1, hqu⟩ := hq
          cases hl : partS P e g (q.toNat * z) with
          | none => simp [hl] at hs
          | some v =>
            simp [hl] at hs; subst hs
            have hw : segsWf S ρ g := evS_wf hf hx
            obtain ⟨h1, h2⟩ := part_ok (w := w) (B := w0.heap.size) (Option.isSome_iff_exists.1 hqu) hw hl
            refine does_pure hh h2 ?_
            simp only [execOp, evS_den ha (x := x) (by simp [Op.operands]) hx, evL_den ha (x := i) (by simp [Op.operands]) hi, Leaf.den, T.I, SR.den, den_agg, Instr.index, asIntOf, Sem.run_bind, Sem.run_pure, Result.andThen_ok, run_underlying hu]
            rw [if_pos ⟨q0, q1⟩]
            simp only [Sem.run_bind, run_size hz, Result.andThen_ok, h1]
        · cases hs
      · cases hs
    · rename_i k a' m k' ti n e hne hx hi hu
      split at hs
      · rename_i hc
        obtain ⟨hsz, hag, hqu, hnm⟩ := hc
        simp only [okRes, Option.some.injEq] at hs; subst hs
        have hn := met_needs hm
        simp only [met_cons] at hn
        have b1 := le_of hn.1; have b2 := lt_of hn.2.1
        simp only [T.I] at b1 b2
        have hw : segsWf S ρ [.arr k a' m] := evS_wf hf hx
        have hlen : (a'.A S ρ).length = m := hw (.arr k a' m) (by simp)
        obtain ⟨ud, hud⟩ := Option.isSome_iff_exists.1 hqu
        refine does_pure hh trivial ?_
        simp only [execOp, evS_den ha (x := x) (by simp [Op.operands]) hx, evL_den ha (x := i) (by simp [Op.operands]) hi, Leaf.den, SR.den, SV.den, Instr.index, asIntOf, Sem.run_bind, Sem.run_pure, Result.andThen_ok, run_underlying hu]
        rw [if_pos ⟨b1, b2⟩]
        simp only [Sem.run_bind, run_size hsz, Result.andThen_ok, part, run_isAgg hud, hag, Bool.false_eq_true, if_false, Nat.mul_one, segsDen_cons, segsDen_nil, List.append_nil, Seg.den, List.getElem?_toArray]
        rw [map_getD _ _ _ (by omega)]
        simp only [Sem.run_pure, Result.andThen_ok, intL, SR.den, SV.den, Leaf.den, mkGet_I]
      · cases hs
    · rename_i l k ti hx hi hu
      simp only [okRes, Option.some.injEq] at hs; subst hs
      have hn := met_needs hm
      simp only [met_cons] at hn
      have b1 := le_of hn.1; have b2 := lt_of hn.2.1
      simp only [T.I] at b1 b2
      refine does_pure hh trivial ?_
      simp only [execOp, evS_den ha (x := x) (by simp [Op.operands]) hx, evL_den ha (x := i) (by simp [Op.operands]) hi, Leaf.den, SR.den, SV.den, Instr.index, asIntOf, Sem.run_bind, Sem.run_pure, Result.andThen_ok, run_underlying hu]
      have hlt : (ti.I S ρ).toNat < l.length := by omega
      rw [if_pos b1, bs_get l _ hlt]
      simp only [Sem.run_pure, Result.andThen_ok, intL, SR.den, SV.den, Leaf.den, mkGet_I, T.A, List.getD_eq_getElem?_getD, List.getElem?_map, List.getElem?_eq_getElem hlt, Option.map_some, Option.getD_some]
    · cases hs
  | extract x i =>
    simp only [step, stExtract] at hs
    split at hs
    · rename_i xs hx
      split at hs
      · rename_i v hv
        simp only [okRes, Option.some.injEq] at hs; subst hs
        have hw : (SR.tup xs).wf S ρ := evS_wf hf hx
        refine does_pure hh (hw v (List.mem_of_getElem? hv)) ?_
        have e1 := evS_den ha (x := x) (by simp [Op.operands]) hx
        simp [execOp, e1, SR.den, Instr.extract, hv]
      · cases hs
    · cases hs
  | typeAssert x xt asserted ok =>
    simp only [step, stTypeAssert] at hs
    split at hs
    · rename_i ti l want hx hu
      have e1 := evL_den ha (x := x) (by simp [Op.operands]) hx
      split at hs
      · rename_i i hi
        split at hs
        · rename_i hmiss
          replace hmiss := lacks_none hmiss
          simp only [okRes, Option.some.injEq] at hs; subst hs
          refine does_pure hh (by cases ok <;> simp [SR.wf, SV.wf]) ?_
          simp only [execOp, e1, Leaf.den, Instr.typeAssert, Sem.run_bind, run_underlying hu, Result.andThen_ok, typeInfo, program, Sem.run, hi, Sem.run_pure, hmiss]
          cases ok <;> simp [SR.den, SV.den, Leaf.den, T.B]
        · rename_i mm hmiss
          obtain ⟨mm, hmiss⟩ := lacks_some hmiss
          split at hs
          · rename_i z hz
            simp only [okRes, Option.some.injEq] at hs; subst hs
            refine does_pure hh (by simp [SR.wf, SV.wf]) ?_
            cases hia : P.info? asserted with
            | none => simp [hia, leafOf] at hz
            | some ia =>
              cases hza : ia.zero with
              | none => simp [hia, hza, leafOf] at hz
              | some za =>
                simp [hia, hza] at hz
                have := leafOf_den (S := S) (ρ := ρ) (B := w0.heap.size) hz
                simp [execOp, e1, Leaf.den, Instr.typeAssert, run_underlying hu, typeInfo, hi, hmiss, zeroValue, hia, hza, SR.den, SV.den, this, T.B]
          · cases hs
      · cases hs
    · rename_i ti l d hne hx hu
      have e1 := evL_den ha (x := x) (by simp [Op.operands]) hx
      split at hs
      · cases hs
      · rename_i hni
        have hni' : ∀ ms, d ≠ .interface ms := fun ms he => hne ms he
        simp only [Bool.false_eq_true, if_false] at hs
        split at hs
        · rename_i hta
          subst hta
          simp only [okRes, Option.some.injEq] at hs; subst hs
          refine does_pure hh (by cases ok <;> simp [SR.wf, SV.wf]) ?_
          simp only [execOp, e1, Leaf.den, Instr.typeAssert, Sem.run_bind, run_underlying hu, Result.andThen_ok]
          cases d <;> first | (exact absurd rfl (hni' _)) | (cases ok <;> simp [SR.den, SV.den, Leaf.den, T.B])
        · rename_i hta
          split at hs
          · rename_i z hz
            simp only [okRes, Option.some.injEq] at hs; subst hs
            refine does_pure hh (by simp [SR.wf, SV.wf]) ?_
            cases hia : P.info? asserted with
            | none => simp [hia, leafOf] at hz
            | some ia =>
              cases hza : ia.zero with
              | none => simp [hia, hza, leafOf] at hz
              | some za =>
                simp [hia, hza] at hz
                have := leafOf_den (S := S) (ρ := ρ) (B := w0.heap.size) hz
                cases d <;> first | (exact absurd rfl (hni' _)) | simp [execOp, e1, Leaf.den, Instr.typeAssert, run_underlying hu, typeInfo, zeroValue, hia, hza, hta, SR.den, SV.den, this, T.B]
          · cases hs
    · cases hs
  | call c =>
    simp only [step, stCall] at hs
    split at hs
    · rename_i hc
      split at hs
      · rename_i x t hargs htys
        have hax : c.args = #[x] := Array.ext' hargs
        have hat : c.argTypes = #[t] := Array.ext' htys
        have hmem : x ∈ (Op.call c).operands := by simp [Op.operands, Call.operands, hc, hax]
        split at hs
        · rename_i e r' s d n cp hu hx
          simp only [okRes, Option.some.injEq] at hs; subst hs
          have b1 := le_of (met_one hm)
          simp only [T.I] at b1
          refine does_pure hh trivial ?_
          have e1 := evL_den ha hmem hx
          simp [execOp, resolve, hc, hax, hat, e1, Leaf.den, invoke, builtin, Builtin.len_, run_underlying hu, goInt, intL, SR.den, SV.den]
          omega
        · rename_i e hu hx
          simp only [okRes, Option.some.injEq] at hs; subst hs
          refine does_pure hh trivial ?_
          have e1 := evL_den ha hmem hx
          simp [execOp, resolve, hc, hax, hat, e1, Leaf.den, invoke, builtin, Builtin.len_, run_underlying hu, goInt, intL, SR.den, SV.den, T.I]
        · rename_i n e l hu hx
          simp only [okRes, Option.some.injEq] at hs; subst hs
          refine does_pure hh trivial ?_
          simp [execOp, resolve, hc, hax, hat, invoke, builtin, Builtin.len_, run_underlying hu, goInt, intL, SR.den, SV.den, Leaf.den, T.I]
        · rename_i l hu hx
          simp only [okRes, Option.some.injEq] at hs; subst hs
          refine does_pure hh trivial ?_
          have e1 := evL_den ha hmem hx
          simp [execOp, resolve, hc, hax, hat, e1, Leaf.den, invoke, builtin, Builtin.len_, run_underlying hu, goInt, intL, SR.den, SV.den, T.I, bs_size]
        · cases hs
      · cases hs
    · rename_i hc
      split at hs
      · rename_i x y hargs
        have hax : c.args = #[x, y] := Array.ext' hargs
        have hmx : x ∈ (Op.call c).operands := by simp [Op.operands, Call.operands, hc, hax]
        have hmy : y ∈ (Op.call c).operands := by simp [Op.operands, Call.operands, hc, hax]
        split at hs
        · rename_i k tx k' ty hx hy
          simp only [okRes, Option.some.injEq] at hs; subst hs
          refine does_pure hh trivial ?_
          simp [execOp, resolve, hc, hax, evL_den ha hmx hx, evL_den ha hmy hy, Leaf.den, invoke, builtin, run_max_int2, intL, SR.den, SV.den, mkMx_I]
        · cases hs
      · cases hs
    · rename_i hc
      split at hs
      · rename_i x y hargs
        have hax : c.args = #[x, y] := Array.ext' hargs
        have hmx : x ∈ (Op.call c).operands := by simp [Op.operands, Call.operands, hc, hax]
        have hmy : y ∈ (Op.call c).operands := by simp [Op.operands, Call.operands, hc, hax]
        split at hs
        · rename_i k tx k' ty hx hy
          simp only [okRes, Option.some.injEq] at hs; subst hs
          refine does_pure hh trivial ?_
          simp [execOp, resolve, hc, hax, evL_den ha hmx hx, evL_den ha hmy hy, Leaf.den, invoke, builtin, run_min_int2, intL, SR.den, SV.den, mkMn_I]
        · cases hs
      · cases hs
    · rename_i hc
      split at hs
      · rename_i x y t u hargs htys
        have hax : c.args = #[x, y] := Array.ext' hargs
        have hat : c.argTypes = #[t, u] := Array.ext' htys
        have hmx : x ∈ (Op.call c).operands := by simp [Op.operands, Call.operands, hc, hax]
        have hmy : y ∈ (Op.call c).operands := by simp [Op.operands, Call.operands, hc, hax]
        split at hs
        · rename_i p q hx hy
          have hcp : r.val.wf S ρ ∧ ∃ w', (Builtin.copy_ #[t, u] type #[p.den S ρ w0.heap.size, q.den S ρ w0.heap.size]).run P w = .ok (r.val.den S ρ w0.heap.size) w' ∧ HpOk S ρ w0 r.heap w' := by
            cases hcs : copyS P t p q h with
            | some r' => simp only [hcs, Option.some.injEq] at hs; subst hs; exact copy_ok hh hcs hm
            | none => simp only [hcs] at hs; exact copyD_ok hh hs hm
          obtain ⟨h1, w', h2, h3⟩ := hcp
          refine .of_yields h1 (.inl ?_) h3
          simp [execOp, resolve, hc, hax, hat, evL_den ha hmx hx, evL_den ha hmy hy, invoke, builtin, h2]
        · cases hs
      · cases hs
    · split at hs
      · rename_i f args hcall
        split at hs
        · rename_i s hspec
          obtain ⟨h1, h2⟩ := call_run (w := w) (t := type) hf ha hcall
          obtain ⟨h3, h4⟩ := hsp f s hspec ρ w0 w h args r hs hm h2 hh
          refine ⟨h3, fun K Q hK => ?_⟩
          unfold Oper.wp
          simp only [execOp]
          rw [h1, Oper.upon_enter]
          exact h4.mono fun e w' ⟨he, hw'⟩ => by subst he; exact hK w' hw'
        · cases hs
      · cases hs
  | _ => simp [step] at hs
end
end
end Go.Proofs.YtljjbikbfeigdaaGreatDoor
namespace Go.Proofs.YtljjbikbfeigdaaGreatDoor
noncomputable section
open Go
def putV (l : List Value) (d : Option Tmp) (v : Value) : List Value :=
  match d with
  | some d => l.set d v
  | none => l
section frames
/-- The frame when the operations of D have been carried out, in the order of the text. -/
def frameD (D : Nat → Bool) : Nat → List (Option Tmp × Value) → List Value → List Value
  | _, [], cur => cur
  | k, e :: es, cur => frameD D (k + 1) es (if D k then putV cur e.1 e.2 else cur)
theorem frameD_length (D : Nat → Bool) : ∀ (es : List (Option Tmp × Value)) (k : Nat) (cur : List Value), (frameD D k es cur).length = cur.length
  | [], _, _ => rfl
  | e :: es, k, cur => by
    unfold frameD
    rw [frameD_length D es]
    split
    · unfold putV; split <;> simp
    · rfl
theorem frameD_look {D D' : Nat → Bool} {s : Nat} : ∀ (es : List (Option Tmp × Value)) (k : Nat) (cur cur' : List Value), cur[s]? = cur'[s]? → cur.length = cur'.length →
    (∀ i e, es[i]? = some e → e.1 = some s → D (k + i) = D' (k + i)) → (frameD D k es cur)[s]? = (frameD D' k es cur')[s]?
  | [], _, _, _, h, _, _ => h
  | e :: es, k, cur, cur', h, hl, hd => by
    unfold frameD
    refine frameD_look es (k + 1) _ _ ?_ ?_ (fun i e' h1 h2 => by have := hd (i + 1) e' (by simpa using h1) h2; rwa [show k + 1 + i = k + (i + 1) from by omega])
    · by_cases hs : e.1 = some s
      · have := hd 0 e rfl hs
        simp only [Nat.add_zero] at this
        rw [this]
        split
        · rw [hs]
          simp [putV, List.getElem?_set, hl]
        · exact h
      · have hput : ∀ c : List Value, (putV c e.1 e.2)[s]? = c[s]? := by
          intro c
          unfold putV
          split
          · rename_i d hd2
            rw [List.getElem?_set_ne (by intro e'; subst e'; exact hs hd2)]
          · rfl
        have e1 : ∀ b : Bool, ∀ c : List Value, (if b = true then putV c e.1 e.2 else c)[s]? = c[s]? := by
          intro b c; split
          · exact hput c
          · rfl
        rw [e1, e1]; exact h
    · have hp : ∀ c : List Value, (putV c e.1 e.2).length = c.length := by intro c; unfold putV; split <;> simp
      split <;> split <;> simp [hp, hl]
theorem frameD_late {D : Nat → Bool} {d : Option Tmp} {v : Value} : ∀ (es : List (Option Tmp × Value)) (k : Nat) (cur : List Value),
    (∀ i e s, es[i]? = some e → d = some s → e.1 = some s → D (k + i) = false) → frameD D k es (putV cur d v) = putV (frameD D k es cur) d v
  | [], _, _, _ => rfl
  | e :: es, k, cur, h => by
    unfold frameD
    have ih := frameD_late (D := D) (d := d) (v := v) es (k + 1) (if D k then putV cur e.1 e.2 else cur) (fun i e' s h1 h2 h3 => by have := h (i + 1) e' s (by simpa using h1) h2 h3; rwa [show k + 1 + i = k + (i + 1) from by omega])
    rw [← ih]
    congr 1
    split
    · rename_i hk
      have h0 := h 0 e
      simp only [Nat.add_zero, hk] at h0
      unfold putV
      cases d with
      | none => rfl
      | some s =>
        cases he : e.1 with
        | none => rfl
        | some t =>
          have hne : t ≠ s := by
            intro e'; subst e'
            have := h0 t rfl rfl he
            cases this
          simp only
          rw [List.set_comm _ _ hne]
    · rfl
theorem frameD_put {D D' : Nat → Bool} {j : Nat} : ∀ (es : List (Option Tmp × Value)) (k : Nat) (cur : List Value) (e : Option Tmp × Value), k ≤ j → es[j - k]? = some e → D j = false → D' j = true → (∀ i, i ≠ j → D' i = D i) →
    (∀ i e' s, es[i]? = some e' → j < k + i → e.1 = some s → e'.1 = some s → D (k + i) = false) → frameD D' k es cur = putV (frameD D k es cur) e.1 e.2
  | [], k, cur, e, _, he, _, _, _, _ => by simp at he
  | x :: es, k, cur, e, hk, he, hD, hD', hne, hl => by
    unfold frameD
    by_cases hkj : k = j
    · subst hkj
      simp only [Nat.sub_self, List.getElem?_cons_zero, Option.some.injEq] at he
      subst he
      rw [hD, hD']
      simp only [if_true, Bool.false_eq_true, if_false]
      have hcong : ∀ (es : List (Option Tmp × Value)) (m : Nat) (c : List Value), k < m → frameD D' m es c = frameD D m es c := by
        intro es
        induction es with
        | nil => intros; rfl
        | cons y es ih => intro m c hm; unfold frameD; rw [hne m (by omega), ih (m + 1) _ (by omega)]
      rw [hcong _ _ _ (by omega)]
      apply frameD_late
      intro i e' s h1 h2 h3
      have := hl (i + 1) e' s (by simpa using h1) (by omega) h2 h3
      rwa [show k + 1 + i = k + (i + 1) from by omega]
    · rw [hne k hkj]
      refine frameD_put es (k + 1) _ e (by omega) ?_ hD hD' hne (fun i e' s h1 h2 h3 h4 => ?_)
      · rw [show j - k = (j - (k + 1)) + 1 from by omega, List.getElem?_cons_succ] at he
        exact he
      · have := hl (i + 1) e' s (by simpa using h1) (by omega) h3 h4
        rwa [show k + 1 + i = k + (i + 1) from by omega]
end frames
section masks
theorem foldl_mask (ms : List Nat) : ∀ (l : List Edge) (s : Nat) (j : Nat), (l.foldl (fun s e => if bindsAny e then s ||| 2 ^ e.on ||| ms.getD e.on 0 else s) s).testBit j = true →
    s.testBit j = true ∨ ∃ e ∈ l, bindsAny e = true ∧ (e.on = j ∨ (ms.getD e.on 0).testBit j = true)
  | [], s, j, h => .inl h
  | e :: l, s, j, h => by
    simp only [List.foldl_cons] at h
    rcases foldl_mask ms l _ j h with h | ⟨e', h1, h2, h3⟩
    · split at h
      · rename_i hb
        simp only [Nat.testBit_or, Bool.or_eq_true, Nat.testBit_two_pow, decide_eq_true_eq] at h
        rcases h with (h | h) | h
        · exact .inl h
        · exact .inr ⟨e, by simp, hb, .inl h⟩
        · exact .inr ⟨e, by simp, hb, .inr h⟩
      · exact .inl h
    · exact .inr ⟨e', by simp [h1], h2, h3⟩
theorem masks_foldl : ∀ (ops : List Oper) (pre : List Nat), (ops.foldl (fun ms o => ms ++ [maskOf ms o]) pre).take pre.length = pre ∧
    ∀ i o, ops[i]? = some o → (ops.foldl (fun ms o => ms ++ [maskOf ms o]) pre)[pre.length + i]? = some (maskOf ((ops.foldl (fun ms o => ms ++ [maskOf ms o]) pre).take (pre.length + i)) o)
  | [], pre => ⟨by simp, fun i o h => by simp at h⟩
  | o :: ops, pre => by
    simp only [List.foldl_cons]
    obtain ⟨h1, h2⟩ := masks_foldl ops (pre ++ [maskOf pre o])
    generalize ops.foldl (fun ms o => ms ++ [maskOf ms o]) (pre ++ [maskOf pre o]) = R at *
    simp only [List.length_append, List.length_cons, List.length_nil, Nat.zero_add] at h1 h2
    have h3 : R.take pre.length = pre := by
      have := congrArg (List.take pre.length) h1
      rw [List.take_take, Nat.min_eq_left (by omega)] at this
      rw [this]; simp
    refine ⟨h3, fun i x hi => ?_⟩
    cases i with
    | zero =>
      simp only [List.getElem?_cons_zero, Option.some.injEq] at hi
      subst hi
      simp only [Nat.add_zero, h3]
      have := congrArg (fun l => l[pre.length]?) h1
      simp only [List.getElem?_take] at this
      rw [if_pos (by omega)] at this
      rw [this]; simp
    | succ i =>
      have := h2 i x (by simpa using hi)
      rwa [show pre.length + 1 + i = pre.length + (i + 1) from by omega] at this
theorem masks_get {ops : List Oper} {i : Nat} {o : Oper} (h : ops[i]? = some o) : (masks ops).getD i 0 = maskOf ((masks ops).take i) o := by
  have := (masks_foldl ops []).2 i o h
  simp only [List.length_nil, Nat.zero_add] at this
  rw [List.getD_eq_getElem?_getD]
  unfold masks
  rw [this]; rfl
/-- D holds whatever is held ahead of what it holds. -/
def Closed (ops : List Oper) (D : Nat → Bool) : Prop := ∀ i o, ops[i]? = some o → D i = true → ∀ e ∈ o.after.toList, bindsAny e = true → D e.on = true
theorem closed_mask {ops : List Oper} {D : Nat → Bool} (hb : backEdges ops = true) (hD : Closed ops D) : ∀ (i : Nat) (o : Oper), ops[i]? = some o → (∀ e ∈ o.after.toList, bindsAny e = true → D e.on = true) → ∀ j, ((masks ops).getD i 0).testBit j = true → D j = true := by
  intro i
  induction i using Nat.strongRecOn with
  | _ i ih =>
    intro o ho hi j hj
    rw [masks_get ho] at hj
    unfold maskOf at hj
    rcases foldl_mask _ _ _ _ hj with h | ⟨e, he, heb, h⟩
    · simp at h
    · have hDe := hi e he heb
      rcases h with h | h
      · rw [← h]; exact hDe
      · have hlt : e.on < i := by
          unfold backEdges at hb
          rw [List.all_eq_true] at hb
          have := hb (o, i) (List.mem_zipIdx_iff_getElem?.2 ho)
          rw [List.all_eq_true] at this
          have := this e he
          simp only [heb, Bool.not_true, Bool.false_or, decide_eq_true_eq] at this
          exact this
        have hlo : e.on < ops.length := by
          have := (List.getElem?_eq_some_iff.1 ho).1
          omega
        have ho' : ops[e.on]? = some ops[e.on] := List.getElem?_eq_getElem hlo
        have h' : ((masks ops).getD e.on 0).testBit j = true := by
          rw [List.getD_eq_getElem?_getD] at h ⊢
          rw [List.getElem?_take, if_pos hlt] at h
          exact h
        exact ih e.on hlt _ ho' (fun e' h1 h2 => hD e.on _ ho' hDe e' h1 h2) j h'
end masks
end
end Go.Proofs.YtljjbikbfeigdaaGreatDoor
