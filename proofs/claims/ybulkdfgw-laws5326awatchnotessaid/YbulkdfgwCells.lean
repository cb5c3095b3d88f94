import Derived.Test.YbulkdfgwRows
import Derived.WalkKit
import Derived.Deep.MidRow
import Derived.Deep.WholeRow
namespace Go.Proofs.Ybulkdfgw
open Go.RowKit
set_option linter.unusedVariables false
set_option linter.unusedSimpArgs false

/-- 'x := v', v a struct of whatever cells, x a variable in memory: 'alloc', then 'store': one new block that holds the cells. -/
theorem wpList_alloc_store {P : Program} {w : World} {ops : Array Oper} {rest : List Oper} {o1 o2 : Oper} {a : Act} {Q : Exit → Act → World → Prop} (g1 : o1.guard = none) (g2 : o2.guard = none) (T : TypeId) (d : Nat) (y : Operand)
    (h1 : o1.op = .alloc T) (hd1 : o1.dst = some d) (h2 : o2.op = .store T (.tmp d) y) (hd2 : o2.dst = none) (z : Value) (n : Nat) (hi : (P.info? T).map (fun i => (i.zero, i.size)) = some (some z, n)) (hzn : z.cells.size = n) (cells : Array Value) (hcn : cells.size = n)
    (h1c : cells.all (·.oneCell') = true) (hx : (a.put (some d) (.pointer (some ⟨w.heap.size, 0, none⟩))).eval (.tmp d) = .pointer (some ⟨w.heap.size, 0, none⟩)) (hy : (a.put (some d) (.pointer (some ⟨w.heap.size, 0, none⟩))).eval y = .agg cells)
    (h : wpList P ops Q rest (a.put (some d) (.pointer (some ⟨w.heap.size, 0, none⟩))) (w.alloc (.cells cells T))) : wpList P ops Q (o1 :: o2 :: rest) a w := by
  subst hcn
  have hzs := hzn
  obtain ⟨hz, hsz⟩ := zero_of_info hi
  refine wpList_plain g1 fun K hK => ?_
  unfold Oper.wp
  simp [execOp, h1, Instr.alloc, hz, newVar, newRow, Result.andThen]
  refine hK (a.put o1.dst (.pointer (some ⟨w.heap.size, 0, none⟩))) _ ?_
  rw [hd1]
  refine wpList_plain g2 fun K2 hK2 => ?_
  unfold Oper.wp
  have hst := run_storeAt_new (P := P) w T z.cells cells hsz hzs h1c
  simp [execOp, h2, hx, hy, hst, Result.andThen]
  have e : (a.put (some d) (.pointer (some ⟨w.heap.size, 0, none⟩))).put o2.dst undef = a.put (some d) (.pointer (some ⟨w.heap.size, 0, none⟩)) := by rw [hd2]; rfl
  exact hK2 _ _ (by first | exact h | (rw [e]; exact h))
end Go.Proofs.Ybulkdfgw
