/- a variable of an array type: laid by one law, so that its cells are never written out -/
import Derived.Test.Qxb6000561aProg
import Derived.WalkKit
import Derived.Deep.OwnRows
namespace Go.Proofs.Qxb6000561a
open Go.RowKit

theorem wpList_alloc_row {P : Program} (w : World) {ops : Array Oper} {rest : List Oper} {o : Oper} {a : Act} {Q : Exit → Act → World → Prop}
    (hg : o.guard = none) (t : TypeId) (hop : o.op = Op.alloc t) (n : Nat) (z : Value) (hz : (P.info? t).map (·.zero) = some (some (.agg (Array.replicate n z))))
    (hK : ∀ w', w'.rowIs w.heap.size t n (fun _ => z) → Below w.heap.size w w' → w'.heap.size = w.heap.size + 1 → wpList P ops Q rest (a.put o.dst (.pointer (some ⟨w.heap.size, 0, none⟩))) w') :
    wpList P ops Q (o :: rest) a w := by
  refine wpList_plain hg fun K hK' => ?_
  have hrun : (Instr.alloc t true (.tuple #[])).run P w = .ok (.pointer (some ⟨w.heap.size, 0, none⟩)) (w.alloc (.cells (Array.replicate n z) t)) := by
    obtain ⟨i, hi, hzz⟩ := Option.map_eq_some_iff.1 hz
    simp [Instr.alloc, zeroValue, typeInfo, hi, hzz, newVar, newRow, Value.cells, go_sem]
  unfold Oper.wp
  simp [execOp, hop, hrun, Result.andThen]
  refine hK' _ _ (hK _ ?_ ((Below.refl _ _).alloc (Nat.le_refl _) _) (by simp))
  have h := World.rowIs_alloc w (Array.replicate n z) t (fun _ => z) (fun i hi => by simp at hi; simp [hi])
  simpa using h
end Go.Proofs.Qxb6000561a
