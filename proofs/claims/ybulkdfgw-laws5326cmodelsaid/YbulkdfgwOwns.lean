import Derived.Test.YbulkdfgwBtw
namespace Go.Proofs.Ybulkdfgw
open Go.ChangeShapes Go.WideShapes Go.ChangeAt Go.RowKit
set_option linter.unusedVariables false
set_option linter.unusedSimpArgs false

theorem exec_build0 {o : Oper} (ho : o.op = .build 67 #[]) {a : Act} (w : World) : (execOp a.eval o).run Yba.prog w = .ok (.value (.agg zeroP.cells.toArray)) w := by
  unfold execOp
  simp only [ho, Sem.run_bind]
  rw [show (Array.map (fun (x : Nat × Operand) => (x.fst, a.eval x.snd)) #[]) = #[] from by simp, run_build w 67 #[] zeroP.cells.toArray built67]
  rfl
theorem range_id {w : World} {g o : Nat} {p : Pr} (h : w.rangeAt g o p.cells) : w.rangeAt g (o + 1) (idC p.id) := fun j u hu => by
  have := h (j + 1) u (by simpa [Pr.cells] using hu)
  rw [show o + 1 + j = o + (j + 1) by omega]; exact this

def inclP (x a b : List UInt8) : Bool := x == b || btw x a b
set_option maxHeartbeats 1000000 in
theorem incl33 (x a b : List UInt8) (hx : x.length = 20) (ha : a.length = 20) (hb : b.length = 20) (w : World) :
    Calls Yba.prog 33 #[.agg (idC x).toArray, .agg (idC a).toArray, .agg (idC b).toArray] w fun e w' => e = .returned (.bool (inclP x a b)) ∧ Below w.heap.size w w' := by
  obtain ⟨hB3, hR3⟩ := r3_boxes w (idC x) (idC a) (idC b) 65 65 65 _ rfl
  have HB0 : Hid _ := hB3
  have HR0 : Hid (R3 w.heap.size (w.heap.size + 1) (w.heap.size + 2) (idC x) (idC a) (idC b) _) := hR3
  clear hB3 hR3
  cases he : (x == b)
  · go_enter Yba.func33, Yba.ntmps33
    go_wp2_with (first
      | (refine gate (some 7) rfl ?_; refine wpList_val rfl (.agg (idC x).toArray) (exec_load 65 (.tmp 3) rfl w.heap.size 0 rfl (idC x) _ HR0.out.1 Yba.underlying65 rfl (by rw [sz65, len_idC, hx])) ?_; simp only [Act.put, List.setIfInBounds_toArray, List.set_cons_zero, List.set_cons_succ])
      | (refine gate (some 8) rfl ?_; refine wpList_val rfl (.agg (idC b).toArray) (exec_load 65 (.tmp 5) rfl (w.heap.size + 2) 0 rfl (idC b) _ HR0.out.2.2.1 Yba.underlying65 rfl (by rw [sz65, len_idC, hb])) ?_; simp only [Act.put, List.setIfInBounds_toArray, List.set_cons_zero, List.set_cons_succ])
      | (refine gate (some 9) rfl ?_; refine wpList_val rfl (.bool false) ((he) ▸ exec_eql65 (x := .tmp 7) (y := .tmp 8) rfl rfl rfl hx hb _) ?_; simp only [Act.put, List.setIfInBounds_toArray, List.set_cons_zero, List.set_cons_succ])
      | (refine gate (some 11) rfl ?_; refine wpList_val rfl (.agg (idC x).toArray) (exec_load 65 (.tmp 3) rfl w.heap.size 0 rfl (idC x) _ HR0.out.1 Yba.underlying65 rfl (by rw [sz65, len_idC, hx])) ?_; simp only [Act.put, List.setIfInBounds_toArray, List.set_cons_zero, List.set_cons_succ])
      | (refine gate (some 12) rfl ?_; refine wpList_val rfl (.agg (idC a).toArray) (exec_load 65 (.tmp 4) rfl (w.heap.size + 1) 0 rfl (idC a) _ HR0.out.2.1 Yba.underlying65 rfl (by rw [sz65, len_idC, ha])) ?_; simp only [Act.put, List.setIfInBounds_toArray, List.set_cons_zero, List.set_cons_succ])
      | (refine gate (some 13) rfl ?_; refine wpList_val rfl (.agg (idC b).toArray) (exec_load 65 (.tmp 5) rfl (w.heap.size + 2) 0 rfl (idC b) _ HR0.out.2.2.1 Yba.underlying65 rfl (by rw [sz65, len_idC, hb])) ?_; simp only [Act.put, List.setIfInBounds_toArray, List.set_cons_zero, List.set_cons_succ]))
    refine (btw30 x a b hx ha hb _).mono ?_
    rintro e w1 ⟨rfl, hB1⟩
    have HB1 : Hid (Below w.heap.size w w1) := HB0.out.trans (hB1.mono HB0.out.size)
    clear hB1
    go_wp2_with fail
    go_ret
    exact ⟨by unfold inclP; rw [he]; simp, HB1.out⟩
  · go_enter Yba.func33, Yba.ntmps33
    go_wp2_with (first
      | (refine gate (some 7) rfl ?_; refine wpList_val rfl (.agg (idC x).toArray) (exec_load 65 (.tmp 3) rfl w.heap.size 0 rfl (idC x) _ HR0.out.1 Yba.underlying65 rfl (by rw [sz65, len_idC, hx])) ?_; simp only [Act.put, List.setIfInBounds_toArray, List.set_cons_zero, List.set_cons_succ])
      | (refine gate (some 8) rfl ?_; refine wpList_val rfl (.agg (idC b).toArray) (exec_load 65 (.tmp 5) rfl (w.heap.size + 2) 0 rfl (idC b) _ HR0.out.2.2.1 Yba.underlying65 rfl (by rw [sz65, len_idC, hb])) ?_; simp only [Act.put, List.setIfInBounds_toArray, List.set_cons_zero, List.set_cons_succ])
      | (refine gate (some 9) rfl ?_; refine wpList_val rfl (.bool true) ((he) ▸ exec_eql65 (x := .tmp 7) (y := .tmp 8) rfl rfl rfl hx hb _) ?_; simp only [Act.put, List.setIfInBounds_toArray, List.set_cons_zero, List.set_cons_succ]))
    go_ret
    exact ⟨by unfold inclP; rw [he]; simp, HB0.out⟩

set_option maxHeartbeats 1000000 in
theorem owns31 (p q : Pr) (x : List UInt8) (hp : p.Ok) (hq : q.Ok) (hx : x.length = 20) (w : World) :
    Calls Yba.prog 31 #[.agg p.cells.toArray, .agg q.cells.toArray, .agg (idC x).toArray] w fun e w' => e = .returned (.bool (ownsP p q x)) ∧ Below w.heap.size w w' := by
  obtain ⟨hB3, hR3⟩ := r3_boxes w p.cells q.cells (idC x) 67 67 65 _ rfl
  have HB0 : Hid _ := hB3
  have HR0 : Hid (R3 w.heap.size (w.heap.size + 1) (w.heap.size + 2) p.cells q.cells (idC x) _) := hR3
  clear hB3 hR3
  cases he : eqP q zeroP
  · have hn : (!eqP q zeroP) = true := by rw [he]; rfl
    go_enter Yba.func31, Yba.ntmps31
    go_wp2_with (first
      | (refine gate (some 7) rfl ?_; refine wpList_val rfl (.agg q.cells.toArray) (exec_load 67 (.tmp 4) rfl (w.heap.size + 1) 0 rfl q.cells _ HR0.out.2.1 Yba.underlying67 rfl (by rw [sz67, hq.cells])) ?_; simp only [Act.put, List.setIfInBounds_toArray, List.set_cons_zero, List.set_cons_succ])
      | (refine gate (some 8) rfl ?_; refine wpList_val rfl (.agg zeroP.cells.toArray) (exec_build0 rfl _) ?_; simp only [Act.put, List.setIfInBounds_toArray, List.set_cons_zero, List.set_cons_succ])
      | (refine gate (some 9) rfl ?_; refine wpList_val rfl (.bool true) ((hn) ▸ exec_neq67 (x := .tmp 7) (y := .tmp 8) rfl rfl rfl hq zeroP_ok _) ?_; simp only [Act.put, List.setIfInBounds_toArray, List.set_cons_zero, List.set_cons_succ])
      | (refine gate (some 11) rfl ?_; refine wpList_val rfl (.agg (idC x).toArray) (exec_load 65 (.tmp 5) rfl (w.heap.size + 2) 0 rfl (idC x) _ HR0.out.2.2.1 Yba.underlying65 rfl (by rw [sz65, len_idC, hx])) ?_; simp only [Act.put, List.setIfInBounds_toArray, List.set_cons_zero, List.set_cons_succ])
      | (refine gate (some 13) rfl ?_; refine wpList_val rfl (.agg (idC q.id).toArray) (exec_load 65 (.tmp 12) rfl (w.heap.size + 1) 1 rfl (idC q.id) _ (range_id HR0.out.2.1) Yba.underlying65 rfl (by rw [sz65, len_idC, hq.len])) ?_; simp only [Act.put, List.setIfInBounds_toArray, List.set_cons_zero, List.set_cons_succ])
      | (refine gate (some 15) rfl ?_; refine wpList_val rfl (.agg (idC p.id).toArray) (exec_load 65 (.tmp 14) rfl w.heap.size 1 rfl (idC p.id) _ (range_id HR0.out.1) Yba.underlying65 rfl (by rw [sz65, len_idC, hp.len])) ?_; simp only [Act.put, List.setIfInBounds_toArray, List.set_cons_zero, List.set_cons_succ]))
    refine (incl33 x q.id p.id hx hq.len hp.len _).mono ?_
    rintro e w1 ⟨rfl, hB1⟩
    have HB1 : Hid (Below w.heap.size w w1) := HB0.out.trans (hB1.mono HB0.out.size)
    clear hB1
    go_wp2_with fail
    go_ret
    exact ⟨by unfold ownsP inclP; rw [he]; simp, HB1.out⟩
  · have hn : (!eqP q zeroP) = false := by rw [he]; rfl
    go_enter Yba.func31, Yba.ntmps31
    go_wp2_with (first
      | (refine gate (some 7) rfl ?_; refine wpList_val rfl (.agg q.cells.toArray) (exec_load 67 (.tmp 4) rfl (w.heap.size + 1) 0 rfl q.cells _ HR0.out.2.1 Yba.underlying67 rfl (by rw [sz67, hq.cells])) ?_; simp only [Act.put, List.setIfInBounds_toArray, List.set_cons_zero, List.set_cons_succ])
      | (refine gate (some 8) rfl ?_; refine wpList_val rfl (.agg zeroP.cells.toArray) (exec_build0 rfl _) ?_; simp only [Act.put, List.setIfInBounds_toArray, List.set_cons_zero, List.set_cons_succ])
      | (refine gate (some 9) rfl ?_; refine wpList_val rfl (.bool false) ((hn) ▸ exec_neq67 (x := .tmp 7) (y := .tmp 8) rfl rfl rfl hq zeroP_ok _) ?_; simp only [Act.put, List.setIfInBounds_toArray, List.set_cons_zero, List.set_cons_succ]))
    go_ret
    exact ⟨by unfold ownsP; rw [he]; simp, HB0.out⟩

set_option maxHeartbeats 1000000 in
theorem owns16 (p q : Pr) (x : List UInt8) (hp : p.Ok) (hq : q.Ok) (hx : x.length = 20) (w : World) :
    Calls Yba.prog 16 #[.agg p.cells.toArray, .agg q.cells.toArray, .agg (idC x).toArray] w fun e w' => e = .returned (.bool (ownsP p q x)) ∧ Below w.heap.size w w' := by
  obtain ⟨hB3, hR3⟩ := r3_boxes w p.cells q.cells (idC x) 67 67 65 _ rfl
  have HB0 : Hid _ := hB3
  have HR0 : Hid (R3 w.heap.size (w.heap.size + 1) (w.heap.size + 2) p.cells q.cells (idC x) _) := hR3
  clear hB3 hR3
  cases he : eqP q zeroP
  · cases hi : (x == p.id)
    · go_enter Yba.func16, Yba.ntmps16
      go_wp2_with (first
        | (refine gate (some 7) rfl ?_; refine wpList_val rfl (.agg q.cells.toArray) (exec_load 67 (.tmp 4) rfl (w.heap.size + 1) 0 rfl q.cells _ HR0.out.2.1 Yba.underlying67 rfl (by rw [sz67, hq.cells])) ?_; simp only [Act.put, List.setIfInBounds_toArray, List.set_cons_zero, List.set_cons_succ])
        | (refine gate (some 8) rfl ?_; refine wpList_val rfl (.agg zeroP.cells.toArray) (exec_build0 rfl _) ?_; simp only [Act.put, List.setIfInBounds_toArray, List.set_cons_zero, List.set_cons_succ])
        | (refine gate (some 9) rfl ?_; refine wpList_val rfl (.bool false) ((he) ▸ exec_eql67 (x := .tmp 7) (y := .tmp 8) rfl rfl rfl hq zeroP_ok _) ?_; simp only [Act.put, List.setIfInBounds_toArray, List.set_cons_zero, List.set_cons_succ])
        | (refine gate (some 10) rfl ?_; refine wpList_val rfl (.agg (idC x).toArray) (exec_load 65 (.tmp 5) rfl (w.heap.size + 2) 0 rfl (idC x) _ HR0.out.2.2.1 Yba.underlying65 rfl (by rw [sz65, len_idC, hx])) ?_; simp only [Act.put, List.setIfInBounds_toArray, List.set_cons_zero, List.set_cons_succ])
        | (refine gate (some 12) rfl ?_; refine wpList_val rfl (.agg (idC p.id).toArray) (exec_load 65 (.tmp 11) rfl w.heap.size 1 rfl (idC p.id) _ (range_id HR0.out.1) Yba.underlying65 rfl (by rw [sz65, len_idC, hp.len])) ?_; simp only [Act.put, List.setIfInBounds_toArray, List.set_cons_zero, List.set_cons_succ])
        | (refine gate (some 13) rfl ?_; refine wpList_val rfl (.bool false) ((hi) ▸ exec_eql65 (x := .tmp 10) (y := .tmp 12) rfl rfl rfl hx hp.len _) ?_; simp only [Act.put, List.setIfInBounds_toArray, List.set_cons_zero, List.set_cons_succ])
        | (refine gate (some 15) rfl ?_; refine wpList_val rfl (.agg (idC x).toArray) (exec_load 65 (.tmp 5) rfl (w.heap.size + 2) 0 rfl (idC x) _ HR0.out.2.2.1 Yba.underlying65 rfl (by rw [sz65, len_idC, hx])) ?_; simp only [Act.put, List.setIfInBounds_toArray, List.set_cons_zero, List.set_cons_succ])
        | (refine gate (some 17) rfl ?_; refine wpList_val rfl (.agg (idC q.id).toArray) (exec_load 65 (.tmp 16) rfl (w.heap.size + 1) 1 rfl (idC q.id) _ (range_id HR0.out.2.1) Yba.underlying65 rfl (by rw [sz65, len_idC, hq.len])) ?_; simp only [Act.put, List.setIfInBounds_toArray, List.set_cons_zero, List.set_cons_succ])
        | (refine gate (some 19) rfl ?_; refine wpList_val rfl (.agg (idC p.id).toArray) (exec_load 65 (.tmp 18) rfl w.heap.size 1 rfl (idC p.id) _ (range_id HR0.out.1) Yba.underlying65 rfl (by rw [sz65, len_idC, hp.len])) ?_; simp only [Act.put, List.setIfInBounds_toArray, List.set_cons_zero, List.set_cons_succ]))
      refine (btw17 x q.id p.id hx hq.len hp.len _).mono ?_
      rintro e w1 ⟨rfl, hB1⟩
      have HB1 : Hid (Below w.heap.size w w1) := HB0.out.trans (hB1.mono HB0.out.size)
      clear hB1
      go_wp2_with fail
      go_ret
      exact ⟨by unfold ownsP; rw [he, hi]; simp, HB1.out⟩
    · go_enter Yba.func16, Yba.ntmps16
      go_wp2_with (first
        | (refine gate (some 7) rfl ?_; refine wpList_val rfl (.agg q.cells.toArray) (exec_load 67 (.tmp 4) rfl (w.heap.size + 1) 0 rfl q.cells _ HR0.out.2.1 Yba.underlying67 rfl (by rw [sz67, hq.cells])) ?_; simp only [Act.put, List.setIfInBounds_toArray, List.set_cons_zero, List.set_cons_succ])
        | (refine gate (some 8) rfl ?_; refine wpList_val rfl (.agg zeroP.cells.toArray) (exec_build0 rfl _) ?_; simp only [Act.put, List.setIfInBounds_toArray, List.set_cons_zero, List.set_cons_succ])
        | (refine gate (some 9) rfl ?_; refine wpList_val rfl (.bool false) ((he) ▸ exec_eql67 (x := .tmp 7) (y := .tmp 8) rfl rfl rfl hq zeroP_ok _) ?_; simp only [Act.put, List.setIfInBounds_toArray, List.set_cons_zero, List.set_cons_succ])
        | (refine gate (some 10) rfl ?_; refine wpList_val rfl (.agg (idC x).toArray) (exec_load 65 (.tmp 5) rfl (w.heap.size + 2) 0 rfl (idC x) _ HR0.out.2.2.1 Yba.underlying65 rfl (by rw [sz65, len_idC, hx])) ?_; simp only [Act.put, List.setIfInBounds_toArray, List.set_cons_zero, List.set_cons_succ])
        | (refine gate (some 12) rfl ?_; refine wpList_val rfl (.agg (idC p.id).toArray) (exec_load 65 (.tmp 11) rfl w.heap.size 1 rfl (idC p.id) _ (range_id HR0.out.1) Yba.underlying65 rfl (by rw [sz65, len_idC, hp.len])) ?_; simp only [Act.put, List.setIfInBounds_toArray, List.set_cons_zero, List.set_cons_succ])
        | (refine gate (some 13) rfl ?_; refine wpList_val rfl (.bool true) ((hi) ▸ exec_eql65 (x := .tmp 10) (y := .tmp 12) rfl rfl rfl hx hp.len _) ?_; simp only [Act.put, List.setIfInBounds_toArray, List.set_cons_zero, List.set_cons_succ]))
      go_ret
      exact ⟨by unfold ownsP; rw [he, hi]; simp, HB0.out⟩
  · go_enter Yba.func16, Yba.ntmps16
    go_wp2_with (first
      | (refine gate (some 7) rfl ?_; refine wpList_val rfl (.agg q.cells.toArray) (exec_load 67 (.tmp 4) rfl (w.heap.size + 1) 0 rfl q.cells _ HR0.out.2.1 Yba.underlying67 rfl (by rw [sz67, hq.cells])) ?_; simp only [Act.put, List.setIfInBounds_toArray, List.set_cons_zero, List.set_cons_succ])
      | (refine gate (some 8) rfl ?_; refine wpList_val rfl (.agg zeroP.cells.toArray) (exec_build0 rfl _) ?_; simp only [Act.put, List.setIfInBounds_toArray, List.set_cons_zero, List.set_cons_succ])
      | (refine gate (some 9) rfl ?_; refine wpList_val rfl (.bool true) ((he) ▸ exec_eql67 (x := .tmp 7) (y := .tmp 8) rfl rfl rfl hq zeroP_ok _) ?_; simp only [Act.put, List.setIfInBounds_toArray, List.set_cons_zero, List.set_cons_succ]))
    go_ret
    exact ⟨by unfold ownsP; rw [he]; simp, HB0.out⟩
end Go.Proofs.Ybulkdfgw
