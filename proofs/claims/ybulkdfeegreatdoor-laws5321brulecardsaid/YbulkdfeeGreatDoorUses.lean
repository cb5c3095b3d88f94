import Derived.Test.YbulkdfeeGreatDoorLeaf
namespace Go.Proofs.YbulkdfeeGreatDoor
open Go.ChangeShapes Go.WideShapes Go.ChangeAt Go.RowKit
set_option linter.unusedVariables false
set_option linter.unusedSimpArgs false

/-! ### The uses, appended -/
def ucells (U : List Us) : List Value := U.flatMap Us.cells
theorem len_ucells (U : List Us) : (ucells U).length = U.length * 7 := by
  induction U with
  | nil => rfl
  | cons u U ih => simp only [ucells, List.flatMap_cons, List.length_append, List.length_cons] at *; rw [ih]; simp [Us.cells]; omega
theorem ucells_append (U V : List Us) : ucells (U ++ V) = ucells U ++ ucells V := by simp [ucells]
theorem ucells_one (u : Us) : ucells [u] = u.cells := by simp [ucells]
theorem one_cells (u : Us) : ∀ v ∈ u.cells, v.oneCell' = true := fun v hv => by
  simp [Us.cells] at hv
  rcases hv with rfl | rfl | rfl | rfl | rfl | rfl | rfl <;> rfl
theorem ucells_at : ∀ (U : List Us) (i : Nat) (u : Us), U[i]? = some u → ∀ j x, u.cells[j]? = some x → (ucells U)[i * 7 + j]? = some x
  | [], i, u, h, j, x, hx => by simp at h
  | y :: U, 0, u, h, j, x, hx => by
    simp only [List.getElem?_cons_zero, Option.some.injEq] at h
    subst h
    have hl : j < y.cells.length := (List.getElem?_eq_some_iff.1 hx).1
    show (y.cells ++ ucells U)[0 * 7 + j]? = _
    rw [Nat.zero_mul, Nat.zero_add, List.getElem?_append_left hl]; exact hx
  | y :: U, i + 1, u, h, j, x, hx => by
    simp only [List.getElem?_cons_succ] at h
    show (y.cells ++ ucells U)[(i + 1) * 7 + j]? = _
    have h7 : y.cells.length = 7 := rfl
    rw [List.getElem?_append_right (by omega), h7, show (i + 1) * 7 + j - 7 = i * 7 + j by omega]
    exact ucells_at U i u h j x hx
def OU (B : Nat) (w : World) (v : Value) (U : List Us) : Prop := w.ownsRow B 36 7 v U.length (ucells U)
theorem OU.nil (B : Nat) (w : World) : OU B w (.slice none 0 0) [] := ⟨rfl, Or.inl ⟨rfl, rfl⟩⟩
theorem OU.lies {B : Nat} {w : World} {v : Value} {U : List Us} (h : OU B w v U) : ∃ a cap, v = .slice a U.length cap ∧ UA w a U ∧ U.length ≤ cap := by
  rcases h.2 with ⟨h0, h1⟩ | ⟨g, cap, cur, h0, _, hg, hc, hr⟩
  · obtain rfl : U = [] := List.eq_nil_of_length_eq_zero h1
    exact ⟨none, 0, h0, fun i u hu => by simp at hu, Nat.le_refl _⟩
  · refine ⟨_, cap, h0, fun i u hu => ⟨g, 0, rfl, (Array.getElem?_eq_some_iff.1 hg).1, fun j x hx => ?_⟩, hc⟩
    have := h.cells (g := g) (by rw [h0]; rfl) (i * 7 + j) x (ucells_at U i u hu j x hx)
    rw [add_plain] at this
    rw [show (0 + i * 7) + j = 0 + (i * 7 + j) by omega]; exact this
theorem run_buildUs (w : World) (u : Us) : (Instr.buildSlice 31 1 #[(0, .agg u.cells.toArray)]).run Ybaz.prog w = .ok (.slice (some ⟨w.heap.size, 0, none⟩) 1 1) (w.alloc (.cells u.cells.toArray 36)) := by
  obtain ⟨i, hi, hz, hs, hb⟩ := info_parts inf36
  refine run_buildSlice w 31 36 1 _ u.cells.toArray i usZ Ybaz.underlying31 hi hz (by rw [hs]; omega) (by rw [hs]; omega) ?_
  rw [hs]; kernel_rfl
theorem run_appendUs (w : World) (B : Nat) (v : Value) (U : List Us) (u : Us) (ty : TypeId) (h : OU B w v U) (hl : U.length ≤ 10000000) (hB : B ≤ w.heap.size) :
    ∃ v' w', (Builtin.append_ #[31, 31] ty #[v, .slice (some ⟨w.heap.size, 0, none⟩) 1 1]).run Ybaz.prog (w.alloc (.cells u.cells.toArray 36)) = .ok v' w' ∧ OU B w' v' (U ++ [u]) ∧ w.grownBy w' v.ownBlock := by
  obtain ⟨i, hi, hz, hs, hb⟩ := info_parts inf36
  have h0 : (w.alloc (.cells u.cells.toArray 36)).ownsRow B 36 7 v U.length (ucells U) := own_alloc h _
  obtain ⟨v', w', hr, h2, h3, _, h5⟩ := run_append_own_at (P := Ybaz.prog) (w.alloc (.cells u.cells.toArray 36)) B 31 ty 36 i usZ 7 56 Ybaz.underlying31 hi hz hs hb rfl (by decide) v U.length _ h0 ⟨w.heap.size, 0, none⟩ 1 1 u.cells rfl (fun j x hx => by
    rw [add_plain, Nat.zero_add]
    exact CB.cell (CB.new (cs := u.cells) w) hx) (one_cells u) (by unfold maxLen; omega) (by omega) (by simp; omega)
  refine ⟨v', w', hr, ?_, grown_behind h3⟩
  unfold OU
  rw [List.length_append, ucells_append, ucells_one]; exact h2
theorem step_buildUs {w : World} {ops : Array Oper} {o : Oper} {a : Act} {K : Act → World → Prop} {Q : Exit → Act → World → Prop} {E : Prop} (hgd : o.guard = none) (x : Operand) (ho : o.op = .buildSlice 31 1 #[(0, x)]) (u : Us) (hx : a.eval x = .agg u.cells.toArray)
    (h : K (a.put o.dst (.slice (some ⟨w.heap.size, 0, none⟩) 1 1)) (w.alloc (.cells u.cells.toArray 36))) : if Region.wanted o (yielded ops a.tmps) = true then Oper.wp Ybaz.prog o a w K Q else E := by
  have hw : Region.wanted o (yielded ops a.tmps) = true := by simp [Region.wanted, hgd]
  rw [if_pos hw]
  unfold Oper.wp execOp
  simp only [ho, List.map_toArray, List.map_cons, List.map_nil, hx, Sem.run_bind, run_buildUs w u, Result.andThen_ok]
  exact h
theorem step_appendUs (w : World) {ops : Array Oper} {o : Oper} {a : Act} {K : Act → World → Prop} {Q : Exit → Act → World → Prop} {E : Prop} (hgd : o.guard = none) (s x : Operand)
    (ho : o.op = .call { callee := .builtin .append, args := #[s, x], argTypes := #[31, 31] })
    (B : Nat) (v : Value) (U : List Us) (u : Us) (hs : a.eval s = v) (hx : a.eval x = .slice (some ⟨w.heap.size, 0, none⟩) 1 1) (hown : OU B w v U) (hl : U.length ≤ 10000000) (hB : B ≤ w.heap.size)
    (h : ∀ v' w', OU B w' v' (U ++ [u]) → w.grownBy w' v.ownBlock → K (a.put o.dst v') w') : if Region.wanted o (yielded ops a.tmps) = true then Oper.wp Ybaz.prog o a (w.alloc (.cells u.cells.toArray 36)) K Q else E := by
  have hw : Region.wanted o (yielded ops a.tmps) = true := by simp [Region.wanted, hgd]
  obtain ⟨v', w', hr, h2, h3⟩ := run_appendUs w B v U u o.type hown hl hB
  rw [if_pos hw]
  unfold Oper.wp execOp
  simp only [ho, resolve, invoke, builtin, Sem.run_bind, Sem.run_pure, Result.andThen_ok, List.map_toArray, List.map_cons, List.map_nil, hs, hx, hr]
  exact h v' w' h2 h3
theorem built36 (a b e f r : Int) : Ybaz.prog.built 36 [(0, .int .i64 a), (1, .int .i64 b), (4, .int .i64 e), (5, .int .i64 f), (6, .int .i64 r)] = some (Us.cells ⟨a, b, 0, 0, e, f, r⟩).toArray := by kernel_rfl
theorem exec_build36 {o : Oper} {x0 x1 x6 : Operand} {e f : Int} (ho : o.op = .build 36 #[(0, x0), (1, x1), (4, .const (.int .i64 e)), (5, .const (.int .i64 f)), (6, x6)]) {act : Act} {a b r : Int} (h0 : act.eval x0 = .int .i64 a) (h1 : act.eval x1 = .int .i64 b) (h6 : act.eval x6 = .int .i64 r) (w : World) :
    (execOp act.eval o).run Ybaz.prog w = .ok (.value (.agg (Us.cells ⟨a, b, 0, 0, e, f, r⟩).toArray)) w := by
  unfold execOp
  simp only [ho, Sem.run_bind]
  rw [show (Array.map (fun (z : Nat × Operand) => (z.fst, act.eval z.snd)) #[(0, x0), (1, x1), (4, .const (.int .i64 e)), (5, .const (.int .i64 f)), (6, x6)]) = #[(0, .int .i64 a), (1, .int .i64 b), (4, .int .i64 e), (5, .int .i64 f), (6, .int .i64 r)] from by simp only [List.map_toArray, List.map_cons, List.map_nil, h0, h1, h6]; rfl, run_build w 36 #[(0, .int .i64 a), (1, .int .i64 b), (4, .int .i64 e), (5, .int .i64 f), (6, .int .i64 r)] _ (built36 a b e f r)]
  rfl
def rw33 (v : Value) (gs gw gst n T : Nat) : List Value := [v, .slice (some ⟨gs, 0, none⟩) (n + 1) (n + 1), .slice (some ⟨gw, 0, none⟩) n n, .slice none 0 0, .slice (some ⟨gst, 0, none⟩) (T + 1) (T + 1)]
theorem built33 (gs gw gst n T : Nat) : Ybaz.prog.built 33 [(1, .slice (some ⟨gs, 0, none⟩) (n + 1) (n + 1)), (2, .slice (some ⟨gw, 0, none⟩) n n), (3, .agg #[.slice none 0 0, .slice (some ⟨gst, 0, none⟩) (T + 1) (T + 1)])] = some (rw33 (.slice none 0 0) gs gw gst n T).toArray := by kernel_rfl
theorem exec_build33 {o : Oper} {x y z : Operand} (ho : o.op = .build 33 #[(1, x), (2, y), (3, z)]) {act : Act} {gs gw gst n T : Nat} (hx : act.eval x = .slice (some ⟨gs, 0, none⟩) (n + 1) (n + 1)) (hy : act.eval y = .slice (some ⟨gw, 0, none⟩) n n) (hz : act.eval z = .agg #[.slice none 0 0, .slice (some ⟨gst, 0, none⟩) (T + 1) (T + 1)]) (w : World) :
    (execOp act.eval o).run Ybaz.prog w = .ok (.value (.agg (rw33 (.slice none 0 0) gs gw gst n T).toArray)) w := by
  unfold execOp
  simp only [ho, Sem.run_bind]
  rw [show (Array.map (fun (z : Nat × Operand) => (z.fst, act.eval z.snd)) #[(1, x), (2, y), (3, z)]) = #[(1, .slice (some ⟨gs, 0, none⟩) (n + 1) (n + 1)), (2, .slice (some ⟨gw, 0, none⟩) n n), (3, .agg #[.slice none 0 0, .slice (some ⟨gst, 0, none⟩) (T + 1) (T + 1)])] from by simp only [List.map_toArray, List.map_cons, List.map_nil, hx, hy, hz], run_build w 33 #[(1, .slice (some ⟨gs, 0, none⟩) (n + 1) (n + 1)), (2, .slice (some ⟨gw, 0, none⟩) n n), (3, .agg #[.slice none 0 0, .slice (some ⟨gst, 0, none⟩) (T + 1) (T + 1)])] _ (built33 gs gw gst n T)]
  rfl
end Go.Proofs.YbulkdfeeGreatDoor
