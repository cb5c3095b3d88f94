import Derived.Test.YbulkdfgwOwns
namespace Go.Proofs.Ybulkdfgw
open Go.ChangeShapes Go.WideShapes Go.ChangeAt Go.RowKit
open Extern.Stop (cell)
set_option linter.unusedVariables false
set_option linter.unusedSimpArgs false

theorem sz64 : (Yba.prog.info? 64).map (·.size) = some 20 := by kernel_rfl
theorem built67r (s : ByteArray) (raw : List UInt8) (h : raw.length = 20) : Yba.prog.built 67 [(0, .string s), (1, .agg (idC raw).toArray)] = some (Pr.cells ⟨s, raw⟩).toArray := by
  match raw, h with
  | [a0, a1, a2, a3, a4, a5, a6, a7, a8, a9, a10, a11, a12, a13, a14, a15, a16, a17, a18, a19], _ => show _ = _; kernel_rfl
theorem exec_build2 {o : Oper} {x y : Operand} (ho : o.op = .build 67 #[(0, x), (1, y)]) {a : Act} {s : ByteArray} {raw : List UInt8} (hx : a.eval x = .string s) (hy : a.eval y = .agg (idC raw).toArray) (h : raw.length = 20) (w : World) : (execOp a.eval o).run Yba.prog w = .ok (.value (.agg (Pr.cells ⟨s, raw⟩).toArray)) w := by
  unfold execOp
  simp only [ho, Sem.run_bind]
  rw [show (Array.map (fun (z : Nat × Operand) => (z.fst, a.eval z.snd)) #[(0, x), (1, y)]) = #[(0, .string s), (1, .agg (idC raw).toArray)] from by simp [hx, hy], run_build w 67 #[(0, .string s), (1, .agg (idC raw).toArray)] (Pr.cells ⟨s, raw⟩).toArray (built67r s raw h)]
  rfl
theorem all_one (p : Pr) : p.cells.toArray.all (·.oneCell') = true := all_oneCell_toArray p.one

theorem below_row' {B g : Nat} {w0 w : World} (hb : Below B w0 w) (hBg : B ≤ g) (cs : Array Value) : Below B w0 (w.setRow g cs) :=
  ⟨hb.os, hb.tape, hb.output, by have := hb.size; simpa using this, fun k hk => by rw [setRow_other _ _ _ _ (by omega)]; exact hb.block k hk⟩
def Z67 : Array Value := #[Value.string { data := #[] }, Value.int .u8 0, Value.int .u8 0, Value.int .u8 0, Value.int .u8 0, Value.int .u8 0, Value.int .u8 0, Value.int .u8 0, Value.int .u8 0, Value.int .u8 0, Value.int .u8 0, Value.int .u8 0, Value.int .u8 0, Value.int .u8 0, Value.int .u8 0, Value.int .u8 0, Value.int .u8 0, Value.int .u8 0, Value.int .u8 0, Value.int .u8 0, Value.int .u8 0]
theorem kp_facts (w : World) (raw : List UInt8) : ∀ w2, w2 = (w.alloc (.cells (idC raw).toArray 64)).alloc (.cells Z67 67) → w2.heap.size = w.heap.size + 2 ∧ Below w.heap.size w w2 ∧ w2.rangeAt w.heap.size 0 (idC raw) ∧ w2.heap[w.heap.size + 1]? = some (.cells Z67 67 (0, 0)) := by
  intro w2 h
  subst h
  have e : (w.alloc (.cells (idC raw).toArray 64)).heap.size = w.heap.size + 1 := by simp
  have n1 := heap_alloc_new w (.cells (idC raw).toArray 64)
  have n2 := heap_alloc_new (w.alloc (.cells (idC raw).toArray 64)) (.cells Z67 67)
  rw [e] at n2
  refine ⟨by simp, ((Below.refl _ w).alloc (Nat.le_refl _) _).alloc (by omega) _, range_of_blk (t := 64) (fr := (0, 0)) ?_, n2⟩
  rw [Below.heap_alloc _ _ _ (by omega)]; exact n1

theorem kp3 (w : World) (raw y : List UInt8) : ∀ w3, w3 = ((w.alloc (.cells (idC raw).toArray 64)).alloc (.cells Z67 67)).alloc (.cells (idC y).toArray 65) → Below w.heap.size w w3 ∧ w3.rangeAt (w.heap.size + 2) 0 (idC y) ∧ w3.heap[w.heap.size + 1]? = some (.cells Z67 67 (0, 0)) := by
  intro w3 h
  subst h
  obtain ⟨hz, hb, _, hn⟩ := kp_facts w raw _ rfl
  have n3 := heap_alloc_new ((w.alloc (.cells (idC raw).toArray 64)).alloc (.cells Z67 67)) (.cells (idC y).toArray 65)
  rw [hz] at n3
  exact ⟨hb.alloc (by omega) _, range_of_blk n3, by rw [Below.heap_alloc _ _ _ (by omega)]; exact hn⟩

set_option maxHeartbeats 2000000 in
set_option maxRecDepth 20000 in
theorem cpeer13 (sel : Nat) (hs : sel ≤ 255) (raw : List UInt8) (hr : raw.length = 20) (w : World) :
    Calls Yba.prog 13 #[.int .u8 sel, .agg (idC raw).toArray] w fun e w' => ∃ p : Pr, p.Ok ∧ e = .returned (.agg p.cells.toArray) ∧ Below w.heap.size w w' := by
  have hk : (sel : Int) % 6 = 0 ∨ (sel : Int) % 6 = 1 ∨ (sel : Int) % 6 = 2 ∨ (sel : Int) % 6 = 3 ∨ (sel : Int) % 6 = 4 ∨ (sel : Int) % 6 = 5 := by omega
  obtain ⟨hz, hb, hrr, hn⟩ := kp_facts w raw _ rfl
  unfold Z67 at hz hb hrr hn
  have HB : Hid _ := hb
  have HR : Hid _ := hrr
  have HN : Hid _ := hn
  clear hz hb hrr hn
  rcases hk with hk | hk | hk | hk | hk | hk
  · go_enter Yba.func13, Yba.ntmps13
    go_wp2_with (first
      | (refine gate (some 12) rfl ?_; refine wpList_val rfl (.agg zeroP.cells.toArray) (exec_build0 rfl _) ?_; simp only [Act.put, List.setIfInBounds_toArray, List.set_cons_zero, List.set_cons_succ])
      | (refine gate none rfl ?_; refine wpList_store_rowTo rfl 67 (.tmp 4) (.tmp 12) rfl rfl (w.heap.size + 1) zeroP.cells.toArray rfl rfl 67 _ HN.out sz67 rfl (all_one zeroP) ?_))
    refine bodyPost_ret (v := .agg zeroP.cells.toArray) (results_cell_row rfl _ _ (w.heap.size + 1) 67 _ (0, 0) _ rfl (setRow_heap _ _ _ _ _ _ HN.out) Yba.underlying67 rfl sz67) rfl ?_
    exact ⟨zeroP, zeroP_ok, rfl, below_row' HB.out (by omega) _⟩
  · obtain ⟨hb3, hr3, hn3⟩ := kp3 w raw [50, 0, 0, 0, 0, 0, 0, 0, 0, 0, 0, 0, 0, 0, 0, 0, 0, 0, 0, 1] _ rfl
    unfold Z67 at hb3 hr3 hn3
    have HB3 : Hid _ := hb3
    have HR3 : Hid _ := hr3
    have HN3 : Hid _ := hn3
    clear hb3 hr3 hn3
    go_enter Yba.func13, Yba.ntmps13
    go_wp2_with (first
      | (refine gate (some 28) rfl ?_; refine wpList_val rfl (.agg (idC [50, 0, 0, 0, 0, 0, 0, 0, 0, 0, 0, 0, 0, 0, 0, 0, 0, 0, 0, 1]).toArray) (exec_load 65 (.tmp 6) rfl (w.heap.size + 2) 0 rfl (idC [50, 0, 0, 0, 0, 0, 0, 0, 0, 0, 0, 0, 0, 0, 0, 0, 0, 0, 0, 1]) _ HR3.out Yba.underlying65 rfl sz65) ?_; simp only [Act.put, List.setIfInBounds_toArray, List.set_cons_zero, List.set_cons_succ])
      | (refine gate (some 29) rfl ?_; refine wpList_val rfl (.agg (⟨Utf8.encode 98, [50, 0, 0, 0, 0, 0, 0, 0, 0, 0, 0, 0, 0, 0, 0, 0, 0, 0, 0, 1]⟩ : Pr).cells.toArray) (exec_build2 rfl rfl rfl rfl _) ?_; simp only [Act.put, List.setIfInBounds_toArray, List.set_cons_zero, List.set_cons_succ])
      | (refine gate none rfl ?_; refine wpList_store_rowTo rfl 67 (.tmp 4) (.tmp 29) rfl rfl (w.heap.size + 1) (⟨Utf8.encode 98, [50, 0, 0, 0, 0, 0, 0, 0, 0, 0, 0, 0, 0, 0, 0, 0, 0, 0, 0, 1]⟩ : Pr).cells.toArray rfl rfl 67 _ HN3.out sz67 rfl (all_one _) ?_))
    refine bodyPost_ret (v := .agg (⟨Utf8.encode 98, [50, 0, 0, 0, 0, 0, 0, 0, 0, 0, 0, 0, 0, 0, 0, 0, 0, 0, 0, 1]⟩ : Pr).cells.toArray) (results_cell_row rfl _ _ (w.heap.size + 1) 67 _ (0, 0) _ rfl (setRow_heap _ _ _ _ _ _ HN3.out) Yba.underlying67 rfl sz67) rfl ?_
    exact ⟨_, ⟨rfl⟩, rfl, below_row' HB3.out (by omega) _⟩
  · obtain ⟨hb3, hr3, hn3⟩ := kp3 w raw [100, 0, 0, 0, 0, 0, 0, 0, 0, 0, 0, 0, 0, 0, 0, 0, 0, 0, 0, 2] _ rfl
    unfold Z67 at hb3 hr3 hn3
    have HB3 : Hid _ := hb3
    have HR3 : Hid _ := hr3
    have HN3 : Hid _ := hn3
    clear hb3 hr3 hn3
    go_enter Yba.func13, Yba.ntmps13
    go_wp2_with (first
      | (refine gate (some 28) rfl ?_; refine wpList_val rfl (.agg (idC [100, 0, 0, 0, 0, 0, 0, 0, 0, 0, 0, 0, 0, 0, 0, 0, 0, 0, 0, 2]).toArray) (exec_load 65 (.tmp 6) rfl (w.heap.size + 2) 0 rfl (idC [100, 0, 0, 0, 0, 0, 0, 0, 0, 0, 0, 0, 0, 0, 0, 0, 0, 0, 0, 2]) _ HR3.out Yba.underlying65 rfl sz65) ?_; simp only [Act.put, List.setIfInBounds_toArray, List.set_cons_zero, List.set_cons_succ])
      | (refine gate (some 29) rfl ?_; refine wpList_val rfl (.agg (⟨Utf8.encode 99, [100, 0, 0, 0, 0, 0, 0, 0, 0, 0, 0, 0, 0, 0, 0, 0, 0, 0, 0, 2]⟩ : Pr).cells.toArray) (exec_build2 rfl rfl rfl rfl _) ?_; simp only [Act.put, List.setIfInBounds_toArray, List.set_cons_zero, List.set_cons_succ])
      | (refine gate none rfl ?_; refine wpList_store_rowTo rfl 67 (.tmp 4) (.tmp 29) rfl rfl (w.heap.size + 1) (⟨Utf8.encode 99, [100, 0, 0, 0, 0, 0, 0, 0, 0, 0, 0, 0, 0, 0, 0, 0, 0, 0, 0, 2]⟩ : Pr).cells.toArray rfl rfl 67 _ HN3.out sz67 rfl (all_one _) ?_))
    refine bodyPost_ret (v := .agg (⟨Utf8.encode 99, [100, 0, 0, 0, 0, 0, 0, 0, 0, 0, 0, 0, 0, 0, 0, 0, 0, 0, 0, 2]⟩ : Pr).cells.toArray) (results_cell_row rfl _ _ (w.heap.size + 1) 67 _ (0, 0) _ rfl (setRow_heap _ _ _ _ _ _ HN3.out) Yba.underlying67 rfl sz67) rfl ?_
    exact ⟨_, ⟨rfl⟩, rfl, below_row' HB3.out (by omega) _⟩
  · obtain ⟨hb3, hr3, hn3⟩ := kp3 w raw [150, 0, 0, 0, 0, 0, 0, 0, 0, 0, 0, 0, 0, 0, 0, 0, 0, 0, 0, 3] _ rfl
    unfold Z67 at hb3 hr3 hn3
    have HB3 : Hid _ := hb3
    have HR3 : Hid _ := hr3
    have HN3 : Hid _ := hn3
    clear hb3 hr3 hn3
    go_enter Yba.func13, Yba.ntmps13
    go_wp2_with (first
      | (refine gate (some 28) rfl ?_; refine wpList_val rfl (.agg (idC [150, 0, 0, 0, 0, 0, 0, 0, 0, 0, 0, 0, 0, 0, 0, 0, 0, 0, 0, 3]).toArray) (exec_load 65 (.tmp 6) rfl (w.heap.size + 2) 0 rfl (idC [150, 0, 0, 0, 0, 0, 0, 0, 0, 0, 0, 0, 0, 0, 0, 0, 0, 0, 0, 3]) _ HR3.out Yba.underlying65 rfl sz65) ?_; simp only [Act.put, List.setIfInBounds_toArray, List.set_cons_zero, List.set_cons_succ])
      | (refine gate (some 29) rfl ?_; refine wpList_val rfl (.agg (⟨Utf8.encode 100, [150, 0, 0, 0, 0, 0, 0, 0, 0, 0, 0, 0, 0, 0, 0, 0, 0, 0, 0, 3]⟩ : Pr).cells.toArray) (exec_build2 rfl rfl rfl rfl _) ?_; simp only [Act.put, List.setIfInBounds_toArray, List.set_cons_zero, List.set_cons_succ])
      | (refine gate none rfl ?_; refine wpList_store_rowTo rfl 67 (.tmp 4) (.tmp 29) rfl rfl (w.heap.size + 1) (⟨Utf8.encode 100, [150, 0, 0, 0, 0, 0, 0, 0, 0, 0, 0, 0, 0, 0, 0, 0, 0, 0, 0, 3]⟩ : Pr).cells.toArray rfl rfl 67 _ HN3.out sz67 rfl (all_one _) ?_))
    refine bodyPost_ret (v := .agg (⟨Utf8.encode 100, [150, 0, 0, 0, 0, 0, 0, 0, 0, 0, 0, 0, 0, 0, 0, 0, 0, 0, 0, 3]⟩ : Pr).cells.toArray) (results_cell_row rfl _ _ (w.heap.size + 1) 67 _ (0, 0) _ rfl (setRow_heap _ _ _ _ _ _ HN3.out) Yba.underlying67 rfl sz67) rfl ?_
    exact ⟨_, ⟨rfl⟩, rfl, below_row' HB3.out (by omega) _⟩
  · obtain ⟨hb3, hr3, hn3⟩ := kp3 w raw [200, 0, 0, 0, 0, 0, 0, 0, 0, 0, 0, 0, 0, 0, 0, 0, 0, 0, 0, 4] _ rfl
    unfold Z67 at hb3 hr3 hn3
    have HB3 : Hid _ := hb3
    have HR3 : Hid _ := hr3
    have HN3 : Hid _ := hn3
    clear hb3 hr3 hn3
    go_enter Yba.func13, Yba.ntmps13
    go_wp2_with (first
      | (refine gate (some 28) rfl ?_; refine wpList_val rfl (.agg (idC [200, 0, 0, 0, 0, 0, 0, 0, 0, 0, 0, 0, 0, 0, 0, 0, 0, 0, 0, 4]).toArray) (exec_load 65 (.tmp 6) rfl (w.heap.size + 2) 0 rfl (idC [200, 0, 0, 0, 0, 0, 0, 0, 0, 0, 0, 0, 0, 0, 0, 0, 0, 0, 0, 4]) _ HR3.out Yba.underlying65 rfl sz65) ?_; simp only [Act.put, List.setIfInBounds_toArray, List.set_cons_zero, List.set_cons_succ])
      | (refine gate (some 29) rfl ?_; refine wpList_val rfl (.agg (⟨Utf8.encode 101, [200, 0, 0, 0, 0, 0, 0, 0, 0, 0, 0, 0, 0, 0, 0, 0, 0, 0, 0, 4]⟩ : Pr).cells.toArray) (exec_build2 rfl rfl rfl rfl _) ?_; simp only [Act.put, List.setIfInBounds_toArray, List.set_cons_zero, List.set_cons_succ])
      | (refine gate none rfl ?_; refine wpList_store_rowTo rfl 67 (.tmp 4) (.tmp 29) rfl rfl (w.heap.size + 1) (⟨Utf8.encode 101, [200, 0, 0, 0, 0, 0, 0, 0, 0, 0, 0, 0, 0, 0, 0, 0, 0, 0, 0, 4]⟩ : Pr).cells.toArray rfl rfl 67 _ HN3.out sz67 rfl (all_one _) ?_))
    refine bodyPost_ret (v := .agg (⟨Utf8.encode 101, [200, 0, 0, 0, 0, 0, 0, 0, 0, 0, 0, 0, 0, 0, 0, 0, 0, 0, 0, 4]⟩ : Pr).cells.toArray) (results_cell_row rfl _ _ (w.heap.size + 1) 67 _ (0, 0) _ rfl (setRow_heap _ _ _ _ _ _ HN3.out) Yba.underlying67 rfl sz67) rfl ?_
    exact ⟨_, ⟨rfl⟩, rfl, below_row' HB3.out (by omega) _⟩
  · go_enter Yba.func13, Yba.ntmps13
    go_wp2_with (first
      | (refine gate (some 15) rfl ?_; refine wpList_val rfl (.agg (idC raw).toArray) (exec_load 64 (.tmp 3) rfl w.heap.size 0 rfl (idC raw) _ HR.out Yba.underlying64 rfl (by rw [sz64, len_idC, hr])) ?_; simp only [Act.put, List.setIfInBounds_toArray, List.set_cons_zero, List.set_cons_succ])
      | (refine gate (some 16) rfl ?_; refine wpList_val rfl (.agg (Pr.cells ⟨{ data := #[114] }, raw⟩).toArray) (exec_build2 rfl rfl rfl hr _) ?_; simp only [Act.put, List.setIfInBounds_toArray, List.set_cons_zero, List.set_cons_succ])
      | (refine gate none rfl ?_; refine wpList_store_rowTo rfl 67 (.tmp 4) (.tmp 16) rfl rfl (w.heap.size + 1) (Pr.cells ⟨{ data := #[114] }, raw⟩).toArray rfl rfl 67 _ HN.out (by rw [sz67]; simp [Pr.cells, len_idC, hr]) (by simp [Pr.cells, len_idC, hr]) (all_one _) ?_))
    refine bodyPost_ret (v := .agg (Pr.cells ⟨{ data := #[114] }, raw⟩).toArray) (results_cell_row rfl _ _ (w.heap.size + 1) 67 _ (0, 0) _ rfl (setRow_heap _ _ _ _ _ _ HN.out) Yba.underlying67 rfl (by rw [sz67]; simp [Pr.cells, len_idC, hr])) rfl ?_
    exact ⟨_, ⟨hr⟩, rfl, below_row' HB.out (by omega) _⟩
end Go.Proofs.Ybulkdfgw
