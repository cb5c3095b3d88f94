import Derived.Test.YbulkdfgwBack
import Derived.Laws.CopyOwn
namespace Go.Proofs.Ybulkdfgw
open Go.ChangeShapes Go.WideShapes Go.ChangeAt Go.RowKit
set_option linter.unusedVariables false
set_option linter.unusedSimpArgs false

def rowTH (f a : Bool) (back tk : List Value) : List Value := .bool f :: .bool a :: (back ++ tk)
def zb : List Value := tbCells zeroP zeroP false false false
def zt : List Value := List.replicate 16 (.int .u64 0)
def Z87 : Array Value := #[Value.bool false, Value.bool false, Value.string { data := #[] }, Value.int .u8 0, Value.int .u8 0, Value.int .u8 0, Value.int .u8 0, Value.int .u8 0, Value.int .u8 0, Value.int .u8 0, Value.int .u8 0, Value.int .u8 0, Value.int .u8 0, Value.int .u8 0, Value.int .u8 0, Value.int .u8 0, Value.int .u8 0, Value.int .u8 0, Value.int .u8 0, Value.int .u8 0, Value.int .u8 0, Value.int .u8 0, Value.int .u8 0, Value.string { data := #[] }, Value.int .u8 0, Value.int .u8 0, Value.int .u8 0, Value.int .u8 0, Value.int .u8 0, Value.int .u8 0, Value.int .u8 0, Value.int .u8 0, Value.int .u8 0, Value.int .u8 0, Value.int .u8 0, Value.int .u8 0, Value.int .u8 0, Value.int .u8 0, Value.int .u8 0, Value.int .u8 0, Value.int .u8 0, Value.int .u8 0, Value.int .u8 0, Value.int .u8 0, Value.bool false, Value.bool false, Value.bool false, Value.int .u64 0, Value.int .u64 0, Value.int .u64 0, Value.int .u64 0, Value.int .u64 0, Value.int .u64 0, Value.int .u64 0, Value.int .u64 0, Value.int .u64 0, Value.int .u64 0, Value.int .u64 0, Value.int .u64 0, Value.int .u64 0, Value.int .u64 0, Value.int .u64 0, Value.int .u64 0]
theorem z87_eq : Z87 = (rowTH false false zb zt).toArray := by kernel_rfl
theorem sz87 : (Yba.prog.info? 87).map (·.size) = some 63 := by kernel_rfl
theorem sz27 : (Yba.prog.info? 27).map (·.size) = some 1 := by kernel_rfl
theorem len_row {f a : Bool} {b t : List Value} (hb : b.length = 45) (ht : t.length = 16) : (rowTH f a b t).length = 63 := by simp [rowTH, hb, ht]
theorem one_row {f a : Bool} {b t : List Value} (hb : ∀ u ∈ b, u.oneCell' = true) (ht : ∀ u ∈ t, u.oneCell' = true) : ∀ u ∈ rowTH f a b t, u.oneCell' = true := by
  intro u hu
  rcases List.mem_cons.1 hu with rfl | hu
  · rfl
  · rcases List.mem_cons.1 hu with rfl | hu
    · rfl
    · rcases List.mem_append.1 hu with h | h
      · exact hb u h
      · exact ht u h
theorem one_zt : ∀ u ∈ zt, u.oneCell' = true := fun u hu => by rw [(List.mem_replicate.1 hu).2]; rfl
theorem built87 (f a : Bool) : Yba.prog.built 87 [(0, .bool f), (1, .bool a)] = some (rowTH f a zb zt).toArray := by kernel_rfl
theorem exec_build87 {o : Oper} {x y : Operand} (ho : o.op = .build 87 #[(0, x), (1, y)]) {act : Act} {f a : Bool} (hx : act.eval x = .bool f) (hy : act.eval y = .bool a) (w : World) : (execOp act.eval o).run Yba.prog w = .ok (.value (.agg (rowTH f a zb zt).toArray)) w := by
  unfold execOp
  simp only [ho, Sem.run_bind]
  rw [show (Array.map (fun (z : Nat × Operand) => (z.fst, act.eval z.snd)) #[(0, x), (1, y)]) = #[(0, .bool f), (1, .bool a)] from by simp [hx, hy], run_build w 87 #[(0, .bool f), (1, .bool a)] (rowTH f a zb zt).toArray (built87 f a)]
  rfl

def tk16 (ns : List Int) : List Value := (ns.take 16).map (Value.int .u64) ++ List.replicate (16 - ns.length) (.int .u64 0)
theorem len_tk (ns : List Int) : (tk16 ns).length = 16 := by simp [tk16]; omega
def bkV (me own rs pred st : Pr) : List Value := if eqP own zeroP then zb else tbV me own rs pred st
def agV (ns : List Int) (z : Int) : Bool := !(z == 0) && decide (z ∈ ns)
def thV (me own rs pred st : Pr) (ns : List Int) (z : Int) : List Value := rowTH (eqP own zeroP) (agV ns z) (bkV me own rs pred st) (tk16 ns)
theorem len_bk {me own rs pred st : Pr} (ho : own.Ok) (hp : pred.Ok) : (bkV me own rs pred st).length = 45 := by
  unfold bkV; split
  · rfl
  · exact len_tb hp ho _ _ _
theorem one_bk (me own rs pred st : Pr) : ∀ u ∈ bkV me own rs pred st, u.oneCell' = true := by
  unfold bkV; split
  · exact one_tb _ _ _ _ _
  · exact one_tb _ _ _ _ _

theorem splice_cons (cur : List Value) (off : Nat) (v : Value) (vs : List Value) (h : off < cur.length) : splice (cur.set off v) (off + 1) vs = splice cur off (v :: vs) := by
  unfold splice
  rw [List.take_add_one, List.take_set_of_le (Nat.le_refl _), List.getElem?_set_self h, List.drop_set_of_lt (by omega)]
  simp
  congr 1
  omega
/-- A row's middle is overwritten. -/
theorem blk_setCells : ∀ (vs : List Value) (w : World) (g off : Nat) (cur : List Value) (t : TypeId), w.heap[g]? = some (.cells cur.toArray t (0, 0)) → off + vs.length ≤ cur.length → (w.setCells g off vs).heap[g]? = some (.cells (splice cur off vs).toArray t (0, 0))
  | [], w, g, off, cur, t, h, hl => by simpa [World.setCells, splice] using h
  | v :: vs, w, g, off, cur, t, h, hl => by
    rw [World.setCells]
    have h1 : (w.setCell ⟨g, off, none⟩ v).heap[g]? = some (.cells (cur.set off v).toArray t (0, 0)) := by simp [World.setCell, Array.getElem?_modify, h]
    rw [blk_setCells vs _ g (off + 1) (cur.set off v) t h1 (by simp at hl ⊢; omega)]
    rw [splice_cons cur off v vs (by simp at hl; omega)]
theorem below_setCells : ∀ (vs : List Value) {B g off : Nat} {w0 w : World}, Below B w0 w → B ≤ g → Below B w0 (w.setCells g off vs)
  | [], _, _, _, _, _, h, _ => h
  | v :: vs, B, g, off, w0, w, h, hg => by
    rw [World.setCells]
    exact below_setCells vs (h.setCell hg v) hg
theorem splice_back (f a : Bool) (b b' t : List Value) (hb : b.length = 45) (hb' : b'.length = 45) : splice (rowTH f a b t) 2 b' = rowTH f a b' t := by
  simp [splice, rowTH, hb, hb', List.drop_append]
theorem splice_tk (f a : Bool) (b : List Value) (ns : List Int) (hb : b.length = 45) : splice (rowTH f a b zt) 47 ((ns.take 16).map (Value.int .u64)) = rowTH f a b (tk16 ns) := by
  have e : rowTH f a b zt = (.bool f :: .bool a :: b) ++ zt := by simp [rowTH]
  have hl : (Value.bool f :: Value.bool a :: b).length = 47 := by simp [hb]
  rw [e]
  unfold splice
  rw [← hl, List.take_left, List.drop_append, List.drop_of_length_le (by omega)]
  simp only [List.nil_append, zt, List.drop_replicate, rowTH, tk16]
  simp
  omega
end Go.Proofs.Ybulkdfgw
