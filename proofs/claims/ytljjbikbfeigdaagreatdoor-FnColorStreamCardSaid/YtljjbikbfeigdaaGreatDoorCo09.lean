/- Part of the proof of FnColorStreamCardSaid: The program's own facts: it follows 'mixedOrders', and every region that draws its order is, in its text, as it must be. -/
import Derived.Test.YtljjbikbfeigdaaGreatDoorCo08
import Derived.Test.YtljjbikbfeigdaaGreatDoorProg
set_option linter.all false
namespace Go.Proofs.YtljjbikbfeigdaaGreatDoor
noncomputable section
open Go
def Za(P:Program)(f:Nat):Bool:=
  match P.funcs[f]? with
  | some fn=>match fn.body with
    | some c=>Ji c
    | none=>true
  | none=>true
theorem jcn:Tryz.prog.follows .mixedOrders=true:=by kernel_rfl
theorem qaq:(List.range 40).all (Za Tryz.prog)=true:=by kernel_rfl
theorem qdn:(List.range' 40 40).all (Za Tryz.prog)=true:=by kernel_rfl
theorem j90:(List.range' 80 40).all (Za Tryz.prog)=true:=by kernel_rfl
theorem qc7:(List.range' 120 40).all (Za Tryz.prog)=true:=by kernel_rfl
theorem qcs:(List.range' 160 40).all (Za Tryz.prog)=true:=by kernel_rfl
theorem qdz:Tryz.prog.funcs.size=200:=by kernel_rfl
theorem Hq:jdl Tryz.prog:=by
  intro f fn c hf hc
  have hlt:f<200:=by
    have:=(Array.getElem?_eq_some_iff.1 hf).1
    rw[qdz] at this;exact this
  have key:Za Tryz.prog f=true:=by
    rcases Nat.lt_or_ge f 40 with h|h
    · exact List.all_eq_true.1 qaq f (List.mem_range.2 h)
    · rcases Nat.lt_or_ge f 80 with h1|h1
      · exact List.all_eq_true.1 qdn f (List.mem_range'_1.2 ⟨h,by omega⟩)
      · rcases Nat.lt_or_ge f 120 with h2|h2
        · exact List.all_eq_true.1 j90 f (List.mem_range'_1.2 ⟨h1,by omega⟩)
        · rcases Nat.lt_or_ge f 160 with h3|h3
          · exact List.all_eq_true.1 qc7 f (List.mem_range'_1.2 ⟨h2,by omega⟩)
          · exact List.all_eq_true.1 qcs f (List.mem_range'_1.2 ⟨h3,by omega⟩)
  unfold Za at key
  rw[hf] at key
  simp only[hc] at key
  exact key
end
end Go.Proofs.YtljjbikbfeigdaaGreatDoor
