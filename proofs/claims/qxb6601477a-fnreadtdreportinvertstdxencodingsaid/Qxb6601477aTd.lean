import Derived.Test.Qxb6601477aBytes
import Derived.Laws.CopyOwn
import Derived.Deep.RegionHeld3
namespace Go.Proofs.Qxb6601477a
open Go.ChangeShapes Go.WideShapes Go.ChangeAt Go.RowKit

/-! ### The model's operations on the report, whole -/
def zero584 : List Int := List.replicate 584 0
theorem zero584_len : zero584.length = 584 := List.length_replicate
theorem build34 (w : World) : (Instr.build 34 #[]).run Try.prog w = .ok (.agg (u8s zero584)) w := by kernel_rfl
theorem info34 : (Try.prog.info? 34).map (·.size) = some 584 := by kernel_rfl
theorem wpList_build34 {ops : Array Oper} {rest : List Oper} {o : Oper} {a : Act} {w : World} {Q : Exit → Act → World → Prop} (hgd : o.guard = none) (ho : o.op = .build 34 #[])
    (h : wpList Try.prog ops Q rest (a.put o.dst (.agg (u8s zero584))) w) : wpList Try.prog ops Q (o :: rest) a w :=
  wpList_plain hgd fun K hK => by
    unfold Oper.wp execOp
    simp only [ho, Sem.run_bind]
    simp [build34]
    exact hK _ _ h
end Go.Proofs.Qxb6601477a
